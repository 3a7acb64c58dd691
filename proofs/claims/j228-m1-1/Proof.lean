import JvmDerived
import JvmDerived.Pilot.@@N@@Statement
import JvmDerived.Pilot.@@N@@Code
set_option linter.unusedVariables false
set_option linter.unusedSimpArgs false
namespace Jvm.RoadKit
open Sem ClassFile Op Lib Jvm.Stand Jvm.Free Jvm.LawKit
section New
variable {p : Program} {l : Launch} {e : Env} {R : Room} {s : State} {m : MethodId} {args : Array Value} {below : List Frame} {meth : Method} {c : Code} {T : State} {locs : List Loc} {cells slots : Nat}
theorem retI (X : Stand p l e R s m args below meth c T locs cells slots) (hx : p.tables.exec = Jvm.exec) {pc : Nat} {Ls : Array Slot} {z : Int32} {rest : List Value} (hret : meth.sig.returnType = some .int) (hd : decode c.code pc = .ok (.ireturn, 1)) {fs : List Frame}
    (hl : ∀ (f : JFrame) (acts : List Action), f.method = m → f.locked = none → f.entered = [] → (doReturn e (T.setTop f) acts (some (.int z))).1 = T.setFrames fs) : Steps p.tables e below (T.setTop (mkF m pc Ls (.int z :: rest))) (T.setFrames fs) := by
  have hm' : T.vm.method? m = some meth := X.method'
  have hn : narrow .int (.int z) = .int z := rfl
  show Steps p.tables e below (T.setTop { method := m, pc := pc, locals := Ls, stack := _ :: rest, locked := none }) _
  jvm_step X.here [X.here.top, hx, hd, hm', hret, hn]
  first | (intro acts; rw [hl _ acts rfl rfl rfl]) | rw [hl _ _ rfl rfl rfl]
  exact Steps.refl _
end New
end Jvm.RoadKit
namespace Jvm.Pilot.@@N@@
open Jvm Jvm.ClassFile Sem Op Lib Jvm.Free Jvm.Stand Jvm.LawKit Jvm.RoadKit Bundle Jvm.Pilot.@@N@@.Jvm.D
theorem own_cut {tb : Tables} {e : Env} {below : List Frame} {A B t : State} (f : Steps tb e below A t → Steps tb e below B t) (h : Steps tb e below A t) : Steps tb e below B t := f h
theorem d1_0 : decode method_2_code 0 = .ok (.lload 7, 2) := by decide +kernel
theorem d1_2 : decode method_2_code 2 = .ok (.iconst 2, 1) := by decide +kernel
theorem d1_3 : decode method_2_code 3 = .ok (.iload_n 0, 1) := by decide +kernel
theorem d1_4 : decode method_2_code 4 = .ok (.imul, 1) := by decide +kernel
theorem d1_5 : decode method_2_code 5 = .ok (.lushr, 1) := by decide +kernel
theorem d1_6 : decode method_2_code 6 = .ok (.l2i, 1) := by decide +kernel
theorem d1_7 : decode method_2_code 7 = .ok (.i2b, 1) := by decide +kernel
theorem d1_8 : decode method_2_code 8 = .ok (.istore 9, 2) := by decide +kernel
theorem d1_10 : decode method_2_code 10 = .ok (.iload_n 0, 1) := by decide +kernel
theorem d1_11 : decode method_2_code 11 = .ok (.iload_n 1, 1) := by decide +kernel
theorem d1_12 : decode method_2_code 12 = .ok (.if_icmp .ge 6, 3) := by decide +kernel
theorem d1_15 : decode method_2_code 15 = .ok (.iload 9, 2) := by decide +kernel
theorem d1_17 : decode method_2_code 17 = .ok (.ireturn, 1) := by decide +kernel
theorem d1_18 : decode method_2_code 18 = .ok (.iload_n 0, 1) := by decide +kernel
theorem d1_19 : decode method_2_code 19 = .ok (.iload_n 1, 1) := by decide +kernel
theorem d1_20 : decode method_2_code 20 = .ok (.isub, 1) := by decide +kernel
theorem d1_21 : decode method_2_code 21 = .ok (.istore 10, 2) := by decide +kernel
theorem d1_23 : decode method_2_code 23 = .ok (.iload_n 2, 1) := by decide +kernel
theorem d1_24 : decode method_2_code 24 = .ok (.ifCond .le 27, 3) := by decide +kernel
theorem d1_27 : decode method_2_code 27 = .ok (.iload 10, 2) := by decide +kernel
theorem d1_29 : decode method_2_code 29 = .ok (.ifCond .ne 16, 3) := by decide +kernel
theorem d1_32 : decode method_2_code 32 = .ok (.iload_n 2, 1) := by decide +kernel
theorem d1_33 : decode method_2_code 33 = .ok (.iconst 1, 1) := by decide +kernel
theorem d1_34 : decode method_2_code 34 = .ok (.if_icmp .ne 8, 3) := by decide +kernel
theorem d1_37 : decode method_2_code 37 = .ok (.bipush 43, 2) := by decide +kernel
theorem d1_39 : decode method_2_code 39 = .ok (.goto 5, 3) := by decide +kernel
theorem d1_42 : decode method_2_code 42 = .ok (.bipush 45, 2) := by decide +kernel
theorem d1_44 : decode method_2_code 44 = .ok (.ireturn, 1) := by decide +kernel
theorem d1_45 : decode method_2_code 45 = .ok (.iload 10, 2) := by decide +kernel
theorem d1_47 : decode method_2_code 47 = .ok (.iconst 1, 1) := by decide +kernel
theorem d1_48 : decode method_2_code 48 = .ok (.isub, 1) := by decide +kernel
theorem d1_49 : decode method_2_code 49 = .ok (.istore 10, 2) := by decide +kernel
theorem d1_51 : decode method_2_code 51 = .ok (.iload 10, 2) := by decide +kernel
theorem d1_53 : decode method_2_code 53 = .ok (.iload_n 3, 1) := by decide +kernel
theorem d1_54 : decode method_2_code 54 = .ok (.if_icmp .ge 36, 3) := by decide +kernel
theorem d1_57 : decode method_2_code 57 = .ok (.iload 10, 2) := by decide +kernel
theorem d1_59 : decode method_2_code 59 = .ok (.ifCond .ne 10, 3) := by decide +kernel
theorem d1_62 : decode method_2_code 62 = .ok (.bipush 48, 2) := by decide +kernel
theorem d1_64 : decode method_2_code 64 = .ok (.iload 4, 2) := by decide +kernel
theorem d1_66 : decode method_2_code 66 = .ok (.iadd, 1) := by decide +kernel
theorem d1_67 : decode method_2_code 67 = .ok (.i2b, 1) := by decide +kernel
theorem d1_68 : decode method_2_code 68 = .ok (.ireturn, 1) := by decide +kernel
theorem d1_69 : decode method_2_code 69 = .ok (.bipush 48, 2) := by decide +kernel
theorem d1_71 : decode method_2_code 71 = .ok (.lload 5, 2) := by decide +kernel
theorem d1_73 : decode method_2_code 73 = .ok (.iconst 3, 1) := by decide +kernel
theorem d1_74 : decode method_2_code 74 = .ok (.iload 10, 2) := by decide +kernel
theorem d1_76 : decode method_2_code 76 = .ok (.imul, 1) := by decide +kernel
theorem d1_77 : decode method_2_code 77 = .ok (.lushr, 1) := by decide +kernel
theorem d1_78 : decode method_2_code 78 = .ok (.ldc2_w 7, 3) := by decide +kernel
theorem d1_81 : decode method_2_code 81 = .ok (.land, 1) := by decide +kernel
theorem d1_82 : decode method_2_code 82 = .ok (.ldc2_w 9, 3) := by decide +kernel
theorem d1_85 : decode method_2_code 85 = .ok (.lrem, 1) := by decide +kernel
theorem d1_86 : decode method_2_code 86 = .ok (.l2i, 1) := by decide +kernel
theorem d1_87 : decode method_2_code 87 = .ok (.iadd, 1) := by decide +kernel
theorem d1_88 : decode method_2_code 88 = .ok (.i2b, 1) := by decide +kernel
theorem d1_89 : decode method_2_code 89 = .ok (.ireturn, 1) := by decide +kernel
theorem d1_90 : decode method_2_code 90 = .ok (.iload 9, 2) := by decide +kernel
theorem d1_92 : decode method_2_code 92 = .ok (.ireturn, 1) := by decide +kernel
theorem pn_1 : plainName "com/example/levelwright/levelwright/BzwShapeIsPlainWholePinLaw" = true := by first | (simp [plainName, overriddenIn]; done) | decide +kernel
theorem ef_1 (m : MethodId) (x0 : Int32) (x1 : Int32) (x2 : Int32) (x3 : Int32) (x4 : Int32) (x5 : Int64) (x6 : Int64) : entryFrame m #[(.int x0), (.int x1), (.int x2), (.int x3), (.int x4), (.long x5), (.long x6)] 11 = mkF m 0 #[.val (.int x0), .val (.int x1), .val (.int x2), .val (.int x3), .val (.int x4), .val (.long x5), .second, .val (.long x6), .second, .unset, .unset] [] := by first | (simp [entryFrame, mkF, argsToLocals, Value.category]; done) | rfl
def F1 (p1 : Int32) (p2 : Int32) (p3 : Int32) (p4 : Int32) (p5 : Int32) (q6 : Int64) (q7 : Int64) : Int32 := (if p1 < p2 then (nar .byte ((((q7.toUInt64 >>> (((2 : Int32) * p1) &&& 0x3f).toInt64.toUInt64).toInt64).toInt32).toInt8.toInt32)) else (if (0 : Int32) < p3 then (if (p1 - p2) = (0 : Int32) then (if p3 = (1 : Int32) then (43 : Int32) else (45 : Int32)) else (if ((p1 - p2) - (1 : Int32)) < p4 then (if ((p1 - p2) - (1 : Int32)) = (0 : Int32) then (nar .byte (((48 : Int32) + p5).toInt8.toInt32)) else (nar .byte (((48 : Int32) + (((((q6.toUInt64 >>> (((3 : Int32) * ((p1 - p2) - (1 : Int32))) &&& 0x3f).toInt64.toUInt64).toInt64) &&& (65535 : Int64)) - ((((q6.toUInt64 >>> (((3 : Int32) * ((p1 - p2) - (1 : Int32))) &&& 0x3f).toInt64.toUInt64).toInt64) &&& (65535 : Int64)) / (10 : Int64)) * (10 : Int64)).toInt32)).toInt8.toInt32))) else (nar .byte ((((q7.toUInt64 >>> (((2 : Int32) * p1) &&& 0x3f).toInt64.toUInt64).toInt64).toInt32).toInt8.toInt32)))) else (if (p1 - p2) < p4 then (if (p1 - p2) = (0 : Int32) then (nar .byte (((48 : Int32) + p5).toInt8.toInt32)) else (nar .byte (((48 : Int32) + (((((q6.toUInt64 >>> (((3 : Int32) * (p1 - p2)) &&& 0x3f).toInt64.toUInt64).toInt64) &&& (65535 : Int64)) - ((((q6.toUInt64 >>> (((3 : Int32) * (p1 - p2)) &&& 0x3f).toInt64.toUInt64).toInt64) &&& (65535 : Int64)) / (10 : Int64)) * (10 : Int64)).toInt32)).toInt8.toInt32))) else (nar .byte ((((q7.toUInt64 >>> (((2 : Int32) * p1) &&& 0x3f).toInt64.toUInt64).toInt64).toInt32).toInt8.toInt32)))))
def Q1 (Z : State) (p1 : Int32) (p2 : Int32) (p3 : Int32) (p4 : Int32) (p5 : Int32) (q6 : Int64) (q7 : Int64) (h0 : Heap) (n0 : Nat) (v : Option Value) (h : Heap) (L : List Loc) : Prop := v = some (.int (F1 p1 p2 p3 p4 p5 q6 q7)) ∧ Fr n0 L ∧ h = h0
set_option maxRecDepth 65536 in
set_option maxHeartbeats 40000000 in
theorem rm1 (l : Launch) (Z : State) (a0 : Array Value) (hw : ∀ d ∈ tables_1, d.before a0 Z = true) (ws : List Jvm.Cond) (p1 : Int32) (p2 : Int32) (p3 : Int32) (p4 : Int32) (p5 : Int32) (q6 : Int64) (q7 : Int64) (h0 : Heap) (n0 : Nat) (Z0 : n0 ≤ h0.size) :
    MetFree l (⟨"com/example/levelwright/levelwright/BzwShapeIsPlainWholePinLaw", "at", "(IIIIIJJ)B"⟩ : MethodName) (head1 (Jvm.Cond.code (⟨"com/example/levelwright/levelwright/BzwShapeIsPlainWholePinLaw", "at", "(IIIIIJJ)B"⟩ : MethodName) method_2_code 11 (some .byte) :: ws) ({ frames := 0, cells := 0, slots := 0, locals := 0 } : Room)) (fun a U => a = #[(.int p1), (.int p2), (.int p3), (.int p4), (.int p5), (.long q6), (.long q7)] ∧ Z.Warmed39 U.vm ∧ U.heap = h0) (fun _ _ _ _ _ => True) (fun _ U o U' => ∃ v L, o = .returned v ∧ Q1 Z p1 p2 p3 p4 p5 q6 q7 h0 n0 v U'.heap L ∧ FrameEnd U o U' L ({ frames := 0, cells := 0, slots := 0, locals := 0 } : Room).cells ({ frames := 0, cells := 0, slots := 0, locals := 0 } : Room).slots) := by
  refine MetFree.of_bodySF (plainFor_of_name pn_1) hisR ?_
  intro p e s m args below meth c s₁ Bd hml0 hP hK
  obtain ⟨rfl, hZ, hh⟩ := hP
  have hx := Bd.exec
  have hby := Bd.bytes
  have hml : c.maxLocals = 11 := hml0
  have hown : s.vm.findClass "com/example/levelwright/levelwright/BzwShapeIsPlainWholePinLaw" = some m.cls := findClass_of_methodNamed Bd.named
  have hnm := (name_of_methodNamed Bd.named Bd.method).1
  have X0 : Stand p l e ({ frames := 0, cells := 0, slots := 0, locals := 0 } : Room) s m #[(.int p1), (.int p2), (.int p3), (.int p4), (.int p5), (.long q6), (.long q7)] below meth c s₁ [] 0 0 := Stand.of_body Bd
  have e0 : s₁.heap = h0 := by rw [← hh, Bd.state]; rfl
  have N0 := Fr.nil n0
  have pre0 : ∀ t, Steps p.tables e below (s₁.setTop (mkF m 0 #[.val (.int p1), .val (.int p2), .val (.int p3), .val (.int p4), .val (.int p5), .val (.long q6), .second, .val (.long q7), .second, .unset, .unset] [])) t → Steps p.tables e below (s₁.setTop (entryFrame m #[(.int p1), (.int p2), (.int p3), (.int p4), (.int p5), (.long q6), (.long q7)] 11)) t := fun t k => castTop (ef_1 m p1 p2 p3 p4 p5 q6 q7) k
  obtain ⟨fs, hr, hrun, hended, hW, hsame⟩ := X0.leave (v := some (.int (if p1 < p2 then (nar .byte ((((q7.toUInt64 >>> (((2 : Int32) * p1) &&& 0x3f).toInt64.toUInt64).toInt64).toInt32).toInt8.toInt32)) else (if (0 : Int32) < p3 then (if (p1 - p2) = (0 : Int32) then (if p3 = (1 : Int32) then (43 : Int32) else (45 : Int32)) else (if ((p1 - p2) - (1 : Int32)) < p4 then (if ((p1 - p2) - (1 : Int32)) = (0 : Int32) then (nar .byte (((48 : Int32) + p5).toInt8.toInt32)) else (nar .byte (((48 : Int32) + (((((q6.toUInt64 >>> (((3 : Int32) * ((p1 - p2) - (1 : Int32))) &&& 0x3f).toInt64.toUInt64).toInt64) &&& (65535 : Int64)) - ((((q6.toUInt64 >>> (((3 : Int32) * ((p1 - p2) - (1 : Int32))) &&& 0x3f).toInt64.toUInt64).toInt64) &&& (65535 : Int64)) / (10 : Int64)) * (10 : Int64)).toInt32)).toInt8.toInt32))) else (nar .byte ((((q7.toUInt64 >>> (((2 : Int32) * p1) &&& 0x3f).toInt64.toUInt64).toInt64).toInt32).toInt8.toInt32)))) else (if (p1 - p2) < p4 then (if (p1 - p2) = (0 : Int32) then (nar .byte (((48 : Int32) + p5).toInt8.toInt32)) else (nar .byte (((48 : Int32) + (((((q6.toUInt64 >>> (((3 : Int32) * (p1 - p2)) &&& 0x3f).toInt64.toUInt64).toInt64) &&& (65535 : Int64)) - ((((q6.toUInt64 >>> (((3 : Int32) * (p1 - p2)) &&& 0x3f).toInt64.toUInt64).toInt64) &&& (65535 : Int64)) / (10 : Int64)) * (10 : Int64)).toInt32)).toInt8.toInt32))) else (nar .byte ((((q7.toUInt64 >>> (((2 : Int32) * p1) &&& 0x3f).toInt64.toUInt64).toInt64).toInt32).toInt8.toInt32))))))) (fun h => by rw [Bd.returns] at h; cases h)
  refine ⟨_, _, pre0 _ ?_, hrun, hended, _, _, rfl, ?_, ⟨_, rfl⟩, hW, hsame.mono (by decide) (by decide)⟩
  · show Steps p.tables e below (s₁.setTop (mkF m 0 #[.val (.int p1), .val (.int p2), .val (.int p3), .val (.int p4), .val (.int p5), .val (.long q6), .second, .val (.long q7), .second, .unset, .unset] [])) _
    refine XS.lload X0.here hx rfl (hb hby d1_0) rfl ?_
    show Steps p.tables e below (s₁.setTop (mkF m 2 #[.val (.int p1), .val (.int p2), .val (.int p3), .val (.int p4), .val (.int p5), .val (.long q6), .second, .val (.long q7), .second, .unset, .unset] [(.long q7)])) _
    refine XS.iconst X0.here hx rfl (hb hby d1_2) ?_
    show Steps p.tables e below (s₁.setTop (mkF m 3 #[.val (.int p1), .val (.int p2), .val (.int p3), .val (.int p4), .val (.int p5), .val (.long q6), .second, .val (.long q7), .second, .unset, .unset] [(.int (2 : Int32)), (.long q7)])) _
    refine XS.iloadN X0.here hx rfl (hb hby d1_3) rfl ?_
    show Steps p.tables e below (s₁.setTop (mkF m 4 #[.val (.int p1), .val (.int p2), .val (.int p3), .val (.int p4), .val (.int p5), .val (.long q6), .second, .val (.long q7), .second, .unset, .unset] [(.int p1), (.int (2 : Int32)), (.long q7)])) _
    refine XS.imul X0.here hx rfl (hb hby d1_4) rfl ?_
    show Steps p.tables e below (s₁.setTop (mkF m 5 #[.val (.int p1), .val (.int p2), .val (.int p3), .val (.int p4), .val (.int p5), .val (.long q6), .second, .val (.long q7), .second, .unset, .unset] [(.int ((2 : Int32) * p1)), (.long q7)])) _
    refine XS.lushr X0.here hx rfl (hb hby d1_5) rfl ?_
    show Steps p.tables e below (s₁.setTop (mkF m 6 #[.val (.int p1), .val (.int p2), .val (.int p3), .val (.int p4), .val (.int p5), .val (.long q6), .second, .val (.long q7), .second, .unset, .unset] [(.long ((q7.toUInt64 >>> (((2 : Int32) * p1) &&& 0x3f).toInt64.toUInt64).toInt64))])) _
    refine XS.l2i X0.here hx rfl (hb hby d1_6) rfl ?_
    show Steps p.tables e below (s₁.setTop (mkF m 7 #[.val (.int p1), .val (.int p2), .val (.int p3), .val (.int p4), .val (.int p5), .val (.long q6), .second, .val (.long q7), .second, .unset, .unset] [(.int (((q7.toUInt64 >>> (((2 : Int32) * p1) &&& 0x3f).toInt64.toUInt64).toInt64).toInt32))])) _
    refine XS.i2b X0.here hx rfl (hb hby d1_7) rfl ?_
    show Steps p.tables e below (s₁.setTop (mkF m 8 #[.val (.int p1), .val (.int p2), .val (.int p3), .val (.int p4), .val (.int p5), .val (.long q6), .second, .val (.long q7), .second, .unset, .unset] [(.int ((((q7.toUInt64 >>> (((2 : Int32) * p1) &&& 0x3f).toInt64.toUInt64).toInt64).toInt32).toInt8.toInt32))])) _
    refine XS.istore X0.here hx rfl (hb hby d1_8) rfl (l' := #[.val (.int p1), .val (.int p2), .val (.int p3), .val (.int p4), .val (.int p5), .val (.long q6), .second, .val (.long q7), .second, .val (.int ((((q7.toUInt64 >>> (((2 : Int32) * p1) &&& 0x3f).toInt64.toUInt64).toInt64).toInt32).toInt8.toInt32)), .unset]) rfl ?_
    show Steps p.tables e below (s₁.setTop (mkF m 10 #[.val (.int p1), .val (.int p2), .val (.int p3), .val (.int p4), .val (.int p5), .val (.long q6), .second, .val (.long q7), .second, .val (.int ((((q7.toUInt64 >>> (((2 : Int32) * p1) &&& 0x3f).toInt64.toUInt64).toInt64).toInt32).toInt8.toInt32)), .unset] [])) _
    refine XS.iloadN X0.here hx rfl (hb hby d1_10) rfl ?_
    show Steps p.tables e below (s₁.setTop (mkF m 11 #[.val (.int p1), .val (.int p2), .val (.int p3), .val (.int p4), .val (.int p5), .val (.long q6), .second, .val (.long q7), .second, .val (.int ((((q7.toUInt64 >>> (((2 : Int32) * p1) &&& 0x3f).toInt64.toUInt64).toInt64).toInt32).toInt8.toInt32)), .unset] [(.int p1)])) _
    refine XS.iloadN X0.here hx rfl (hb hby d1_11) rfl ?_
    show Steps p.tables e below (s₁.setTop (mkF m 12 #[.val (.int p1), .val (.int p2), .val (.int p3), .val (.int p4), .val (.int p5), .val (.long q6), .second, .val (.long q7), .second, .val (.int ((((q7.toUInt64 >>> (((2 : Int32) * p1) &&& 0x3f).toInt64.toUInt64).toInt64).toInt32).toInt8.toInt32)), .unset] [(.int p2), (.int p1)])) _
    by_cases hc12_1 : p1 < p2
    · refine XS.icmpNo X0.here hx rfl (hb hby d1_12) rfl (tlt hc12_1).2.1 ?_
      show Steps p.tables e below (s₁.setTop (mkF m 15 #[.val (.int p1), .val (.int p2), .val (.int p3), .val (.int p4), .val (.int p5), .val (.long q6), .second, .val (.long q7), .second, .val (.int ((((q7.toUInt64 >>> (((2 : Int32) * p1) &&& 0x3f).toInt64.toUInt64).toInt64).toInt32).toInt8.toInt32)), .unset] [])) _
      refine XS.iload X0.here hx rfl (hb hby d1_15) rfl ?_
      show Steps p.tables e below (s₁.setTop (mkF m 17 #[.val (.int p1), .val (.int p2), .val (.int p3), .val (.int p4), .val (.int p5), .val (.long q6), .second, .val (.long q7), .second, .val (.int ((((q7.toUInt64 >>> (((2 : Int32) * p1) &&& 0x3f).toInt64.toUInt64).toInt64).toInt32).toInt8.toInt32)), .unset] [(.int ((((q7.toUInt64 >>> (((2 : Int32) * p1) &&& 0x3f).toInt64.toUInt64).toInt64).toInt32).toInt8.toInt32))])) _
      rw [if_pos hc12_1] at hr
      exact retN X0 hx (t := .byte) Bd.returns (by simp) (hb hby d1_17) hr
    · refine XS.icmpYes X0.here hx rfl (pc0 := 12) (pc' := 18) rfl (hb hby d1_12) rfl (flt hc12_1).2.1 (by decide) (by decide) ?_
      show Steps p.tables e below (s₁.setTop (mkF m 18 #[.val (.int p1), .val (.int p2), .val (.int p3), .val (.int p4), .val (.int p5), .val (.long q6), .second, .val (.long q7), .second, .val (.int ((((q7.toUInt64 >>> (((2 : Int32) * p1) &&& 0x3f).toInt64.toUInt64).toInt64).toInt32).toInt8.toInt32)), .unset] [])) _
      refine XS.iloadN X0.here hx rfl (hb hby d1_18) rfl ?_
      show Steps p.tables e below (s₁.setTop (mkF m 19 #[.val (.int p1), .val (.int p2), .val (.int p3), .val (.int p4), .val (.int p5), .val (.long q6), .second, .val (.long q7), .second, .val (.int ((((q7.toUInt64 >>> (((2 : Int32) * p1) &&& 0x3f).toInt64.toUInt64).toInt64).toInt32).toInt8.toInt32)), .unset] [(.int p1)])) _
      refine XS.iloadN X0.here hx rfl (hb hby d1_19) rfl ?_
      show Steps p.tables e below (s₁.setTop (mkF m 20 #[.val (.int p1), .val (.int p2), .val (.int p3), .val (.int p4), .val (.int p5), .val (.long q6), .second, .val (.long q7), .second, .val (.int ((((q7.toUInt64 >>> (((2 : Int32) * p1) &&& 0x3f).toInt64.toUInt64).toInt64).toInt32).toInt8.toInt32)), .unset] [(.int p2), (.int p1)])) _
      refine XS.isub X0.here hx rfl (hb hby d1_20) rfl ?_
      show Steps p.tables e below (s₁.setTop (mkF m 21 #[.val (.int p1), .val (.int p2), .val (.int p3), .val (.int p4), .val (.int p5), .val (.long q6), .second, .val (.long q7), .second, .val (.int ((((q7.toUInt64 >>> (((2 : Int32) * p1) &&& 0x3f).toInt64.toUInt64).toInt64).toInt32).toInt8.toInt32)), .unset] [(.int (p1 - p2))])) _
      refine XS.istore X0.here hx rfl (hb hby d1_21) rfl (l' := #[.val (.int p1), .val (.int p2), .val (.int p3), .val (.int p4), .val (.int p5), .val (.long q6), .second, .val (.long q7), .second, .val (.int ((((q7.toUInt64 >>> (((2 : Int32) * p1) &&& 0x3f).toInt64.toUInt64).toInt64).toInt32).toInt8.toInt32)), .val (.int (p1 - p2))]) rfl ?_
      show Steps p.tables e below (s₁.setTop (mkF m 23 #[.val (.int p1), .val (.int p2), .val (.int p3), .val (.int p4), .val (.int p5), .val (.long q6), .second, .val (.long q7), .second, .val (.int ((((q7.toUInt64 >>> (((2 : Int32) * p1) &&& 0x3f).toInt64.toUInt64).toInt64).toInt32).toInt8.toInt32)), .val (.int (p1 - p2))] [])) _
      refine XS.iloadN X0.here hx rfl (hb hby d1_23) rfl ?_
      show Steps p.tables e below (s₁.setTop (mkF m 24 #[.val (.int p1), .val (.int p2), .val (.int p3), .val (.int p4), .val (.int p5), .val (.long q6), .second, .val (.long q7), .second, .val (.int ((((q7.toUInt64 >>> (((2 : Int32) * p1) &&& 0x3f).toInt64.toUInt64).toInt64).toInt32).toInt8.toInt32)), .val (.int (p1 - p2))] [(.int p3)])) _
      by_cases hc24_2 : (0 : Int32) < p3
      · refine XS.ifNo X0.here hx rfl (hb hby d1_24) rfl ((if0 _ _).trans (tlt hc24_2).2.2.2) ?_
        show Steps p.tables e below (s₁.setTop (mkF m 27 #[.val (.int p1), .val (.int p2), .val (.int p3), .val (.int p4), .val (.int p5), .val (.long q6), .second, .val (.long q7), .second, .val (.int ((((q7.toUInt64 >>> (((2 : Int32) * p1) &&& 0x3f).toInt64.toUInt64).toInt64).toInt32).toInt8.toInt32)), .val (.int (p1 - p2))] [])) _
        refine XS.iload X0.here hx rfl (hb hby d1_27) rfl ?_
        show Steps p.tables e below (s₁.setTop (mkF m 29 #[.val (.int p1), .val (.int p2), .val (.int p3), .val (.int p4), .val (.int p5), .val (.long q6), .second, .val (.long q7), .second, .val (.int ((((q7.toUInt64 >>> (((2 : Int32) * p1) &&& 0x3f).toInt64.toUInt64).toInt64).toInt32).toInt8.toInt32)), .val (.int (p1 - p2))] [(.int (p1 - p2))])) _
        by_cases hc29_3 : (p1 - p2) = (0 : Int32)
        · refine XS.ifNo X0.here hx rfl (hb hby d1_29) rfl ((if0 _ _).trans (teq hc29_3).2) ?_
          show Steps p.tables e below (s₁.setTop (mkF m 32 #[.val (.int p1), .val (.int p2), .val (.int p3), .val (.int p4), .val (.int p5), .val (.long q6), .second, .val (.long q7), .second, .val (.int ((((q7.toUInt64 >>> (((2 : Int32) * p1) &&& 0x3f).toInt64.toUInt64).toInt64).toInt32).toInt8.toInt32)), .val (.int (p1 - p2))] [])) _
          refine XS.iloadN X0.here hx rfl (hb hby d1_32) rfl ?_
          show Steps p.tables e below (s₁.setTop (mkF m 33 #[.val (.int p1), .val (.int p2), .val (.int p3), .val (.int p4), .val (.int p5), .val (.long q6), .second, .val (.long q7), .second, .val (.int ((((q7.toUInt64 >>> (((2 : Int32) * p1) &&& 0x3f).toInt64.toUInt64).toInt64).toInt32).toInt8.toInt32)), .val (.int (p1 - p2))] [(.int p3)])) _
          refine XS.iconst X0.here hx rfl (hb hby d1_33) ?_
          show Steps p.tables e below (s₁.setTop (mkF m 34 #[.val (.int p1), .val (.int p2), .val (.int p3), .val (.int p4), .val (.int p5), .val (.long q6), .second, .val (.long q7), .second, .val (.int ((((q7.toUInt64 >>> (((2 : Int32) * p1) &&& 0x3f).toInt64.toUInt64).toInt64).toInt32).toInt8.toInt32)), .val (.int (p1 - p2))] [(.int (1 : Int32)), (.int p3)])) _
          by_cases hc34_4 : p3 = (1 : Int32)
          · refine XS.icmpNo X0.here hx rfl (hb hby d1_34) rfl (teq hc34_4).2 ?_
            show Steps p.tables e below (s₁.setTop (mkF m 37 #[.val (.int p1), .val (.int p2), .val (.int p3), .val (.int p4), .val (.int p5), .val (.long q6), .second, .val (.long q7), .second, .val (.int ((((q7.toUInt64 >>> (((2 : Int32) * p1) &&& 0x3f).toInt64.toUInt64).toInt64).toInt32).toInt8.toInt32)), .val (.int (p1 - p2))] [])) _
            refine XS.bipush X0.here hx rfl (hb hby d1_37) ?_
            show Steps p.tables e below (s₁.setTop (mkF m 39 #[.val (.int p1), .val (.int p2), .val (.int p3), .val (.int p4), .val (.int p5), .val (.long q6), .second, .val (.long q7), .second, .val (.int ((((q7.toUInt64 >>> (((2 : Int32) * p1) &&& 0x3f).toInt64.toUInt64).toInt64).toInt32).toInt8.toInt32)), .val (.int (p1 - p2))] [(.int (43 : Int32))])) _
            refine XS.goto X0.here hx rfl (pc0 := 39) (pc' := 44) rfl (hb hby d1_39) (by decide) (by decide) ?_
            show Steps p.tables e below (s₁.setTop (mkF m 44 #[.val (.int p1), .val (.int p2), .val (.int p3), .val (.int p4), .val (.int p5), .val (.long q6), .second, .val (.long q7), .second, .val (.int ((((q7.toUInt64 >>> (((2 : Int32) * p1) &&& 0x3f).toInt64.toUInt64).toInt64).toInt32).toInt8.toInt32)), .val (.int (p1 - p2))] [(.int (43 : Int32))])) _
            rw [if_neg hc12_1, if_pos hc24_2, if_pos hc29_3, if_pos hc34_4] at hr
            exact retN X0 hx (t := .byte) Bd.returns (by simp) (hb hby d1_44) hr
          · refine XS.icmpYes X0.here hx rfl (pc0 := 34) (pc' := 42) rfl (hb hby d1_34) rfl (feq hc34_4).2 (by decide) (by decide) ?_
            show Steps p.tables e below (s₁.setTop (mkF m 42 #[.val (.int p1), .val (.int p2), .val (.int p3), .val (.int p4), .val (.int p5), .val (.long q6), .second, .val (.long q7), .second, .val (.int ((((q7.toUInt64 >>> (((2 : Int32) * p1) &&& 0x3f).toInt64.toUInt64).toInt64).toInt32).toInt8.toInt32)), .val (.int (p1 - p2))] [])) _
            refine XS.bipush X0.here hx rfl (hb hby d1_42) ?_
            show Steps p.tables e below (s₁.setTop (mkF m 44 #[.val (.int p1), .val (.int p2), .val (.int p3), .val (.int p4), .val (.int p5), .val (.long q6), .second, .val (.long q7), .second, .val (.int ((((q7.toUInt64 >>> (((2 : Int32) * p1) &&& 0x3f).toInt64.toUInt64).toInt64).toInt32).toInt8.toInt32)), .val (.int (p1 - p2))] [(.int (45 : Int32))])) _
            rw [if_neg hc12_1, if_pos hc24_2, if_pos hc29_3, if_neg hc34_4] at hr
            exact retN X0 hx (t := .byte) Bd.returns (by simp) (hb hby d1_44) hr
        · refine XS.ifYes X0.here hx rfl (pc0 := 29) (pc' := 45) rfl (hb hby d1_29) rfl ((if0 _ _).trans (feq hc29_3).2) (by decide) (by decide) ?_
          show Steps p.tables e below (s₁.setTop (mkF m 45 #[.val (.int p1), .val (.int p2), .val (.int p3), .val (.int p4), .val (.int p5), .val (.long q6), .second, .val (.long q7), .second, .val (.int ((((q7.toUInt64 >>> (((2 : Int32) * p1) &&& 0x3f).toInt64.toUInt64).toInt64).toInt32).toInt8.toInt32)), .val (.int (p1 - p2))] [])) _
          refine XS.iload X0.here hx rfl (hb hby d1_45) rfl ?_
          show Steps p.tables e below (s₁.setTop (mkF m 47 #[.val (.int p1), .val (.int p2), .val (.int p3), .val (.int p4), .val (.int p5), .val (.long q6), .second, .val (.long q7), .second, .val (.int ((((q7.toUInt64 >>> (((2 : Int32) * p1) &&& 0x3f).toInt64.toUInt64).toInt64).toInt32).toInt8.toInt32)), .val (.int (p1 - p2))] [(.int (p1 - p2))])) _
          refine XS.iconst X0.here hx rfl (hb hby d1_47) ?_
          show Steps p.tables e below (s₁.setTop (mkF m 48 #[.val (.int p1), .val (.int p2), .val (.int p3), .val (.int p4), .val (.int p5), .val (.long q6), .second, .val (.long q7), .second, .val (.int ((((q7.toUInt64 >>> (((2 : Int32) * p1) &&& 0x3f).toInt64.toUInt64).toInt64).toInt32).toInt8.toInt32)), .val (.int (p1 - p2))] [(.int (1 : Int32)), (.int (p1 - p2))])) _
          refine XS.isub X0.here hx rfl (hb hby d1_48) rfl ?_
          show Steps p.tables e below (s₁.setTop (mkF m 49 #[.val (.int p1), .val (.int p2), .val (.int p3), .val (.int p4), .val (.int p5), .val (.long q6), .second, .val (.long q7), .second, .val (.int ((((q7.toUInt64 >>> (((2 : Int32) * p1) &&& 0x3f).toInt64.toUInt64).toInt64).toInt32).toInt8.toInt32)), .val (.int (p1 - p2))] [(.int ((p1 - p2) - (1 : Int32)))])) _
          refine XS.istore X0.here hx rfl (hb hby d1_49) rfl (l' := #[.val (.int p1), .val (.int p2), .val (.int p3), .val (.int p4), .val (.int p5), .val (.long q6), .second, .val (.long q7), .second, .val (.int ((((q7.toUInt64 >>> (((2 : Int32) * p1) &&& 0x3f).toInt64.toUInt64).toInt64).toInt32).toInt8.toInt32)), .val (.int ((p1 - p2) - (1 : Int32)))]) rfl ?_
          show Steps p.tables e below (s₁.setTop (mkF m 51 #[.val (.int p1), .val (.int p2), .val (.int p3), .val (.int p4), .val (.int p5), .val (.long q6), .second, .val (.long q7), .second, .val (.int ((((q7.toUInt64 >>> (((2 : Int32) * p1) &&& 0x3f).toInt64.toUInt64).toInt64).toInt32).toInt8.toInt32)), .val (.int ((p1 - p2) - (1 : Int32)))] [])) _
          refine XS.iload X0.here hx rfl (hb hby d1_51) rfl ?_
          show Steps p.tables e below (s₁.setTop (mkF m 53 #[.val (.int p1), .val (.int p2), .val (.int p3), .val (.int p4), .val (.int p5), .val (.long q6), .second, .val (.long q7), .second, .val (.int ((((q7.toUInt64 >>> (((2 : Int32) * p1) &&& 0x3f).toInt64.toUInt64).toInt64).toInt32).toInt8.toInt32)), .val (.int ((p1 - p2) - (1 : Int32)))] [(.int ((p1 - p2) - (1 : Int32)))])) _
          refine XS.iloadN X0.here hx rfl (hb hby d1_53) rfl ?_
          show Steps p.tables e below (s₁.setTop (mkF m 54 #[.val (.int p1), .val (.int p2), .val (.int p3), .val (.int p4), .val (.int p5), .val (.long q6), .second, .val (.long q7), .second, .val (.int ((((q7.toUInt64 >>> (((2 : Int32) * p1) &&& 0x3f).toInt64.toUInt64).toInt64).toInt32).toInt8.toInt32)), .val (.int ((p1 - p2) - (1 : Int32)))] [(.int p4), (.int ((p1 - p2) - (1 : Int32)))])) _
          by_cases hc54_5 : ((p1 - p2) - (1 : Int32)) < p4
          · refine XS.icmpNo X0.here hx rfl (hb hby d1_54) rfl (tlt hc54_5).2.1 ?_
            show Steps p.tables e below (s₁.setTop (mkF m 57 #[.val (.int p1), .val (.int p2), .val (.int p3), .val (.int p4), .val (.int p5), .val (.long q6), .second, .val (.long q7), .second, .val (.int ((((q7.toUInt64 >>> (((2 : Int32) * p1) &&& 0x3f).toInt64.toUInt64).toInt64).toInt32).toInt8.toInt32)), .val (.int ((p1 - p2) - (1 : Int32)))] [])) _
            refine XS.iload X0.here hx rfl (hb hby d1_57) rfl ?_
            show Steps p.tables e below (s₁.setTop (mkF m 59 #[.val (.int p1), .val (.int p2), .val (.int p3), .val (.int p4), .val (.int p5), .val (.long q6), .second, .val (.long q7), .second, .val (.int ((((q7.toUInt64 >>> (((2 : Int32) * p1) &&& 0x3f).toInt64.toUInt64).toInt64).toInt32).toInt8.toInt32)), .val (.int ((p1 - p2) - (1 : Int32)))] [(.int ((p1 - p2) - (1 : Int32)))])) _
            by_cases hc59_6 : ((p1 - p2) - (1 : Int32)) = (0 : Int32)
            · refine XS.ifNo X0.here hx rfl (hb hby d1_59) rfl ((if0 _ _).trans (teq hc59_6).2) ?_
              show Steps p.tables e below (s₁.setTop (mkF m 62 #[.val (.int p1), .val (.int p2), .val (.int p3), .val (.int p4), .val (.int p5), .val (.long q6), .second, .val (.long q7), .second, .val (.int ((((q7.toUInt64 >>> (((2 : Int32) * p1) &&& 0x3f).toInt64.toUInt64).toInt64).toInt32).toInt8.toInt32)), .val (.int ((p1 - p2) - (1 : Int32)))] [])) _
              refine XS.bipush X0.here hx rfl (hb hby d1_62) ?_
              show Steps p.tables e below (s₁.setTop (mkF m 64 #[.val (.int p1), .val (.int p2), .val (.int p3), .val (.int p4), .val (.int p5), .val (.long q6), .second, .val (.long q7), .second, .val (.int ((((q7.toUInt64 >>> (((2 : Int32) * p1) &&& 0x3f).toInt64.toUInt64).toInt64).toInt32).toInt8.toInt32)), .val (.int ((p1 - p2) - (1 : Int32)))] [(.int (48 : Int32))])) _
              refine XS.iload X0.here hx rfl (hb hby d1_64) rfl ?_
              show Steps p.tables e below (s₁.setTop (mkF m 66 #[.val (.int p1), .val (.int p2), .val (.int p3), .val (.int p4), .val (.int p5), .val (.long q6), .second, .val (.long q7), .second, .val (.int ((((q7.toUInt64 >>> (((2 : Int32) * p1) &&& 0x3f).toInt64.toUInt64).toInt64).toInt32).toInt8.toInt32)), .val (.int ((p1 - p2) - (1 : Int32)))] [(.int p5), (.int (48 : Int32))])) _
              refine XS.iadd X0.here hx rfl (hb hby d1_66) rfl ?_
              show Steps p.tables e below (s₁.setTop (mkF m 67 #[.val (.int p1), .val (.int p2), .val (.int p3), .val (.int p4), .val (.int p5), .val (.long q6), .second, .val (.long q7), .second, .val (.int ((((q7.toUInt64 >>> (((2 : Int32) * p1) &&& 0x3f).toInt64.toUInt64).toInt64).toInt32).toInt8.toInt32)), .val (.int ((p1 - p2) - (1 : Int32)))] [(.int ((48 : Int32) + p5))])) _
              refine XS.i2b X0.here hx rfl (hb hby d1_67) rfl ?_
              show Steps p.tables e below (s₁.setTop (mkF m 68 #[.val (.int p1), .val (.int p2), .val (.int p3), .val (.int p4), .val (.int p5), .val (.long q6), .second, .val (.long q7), .second, .val (.int ((((q7.toUInt64 >>> (((2 : Int32) * p1) &&& 0x3f).toInt64.toUInt64).toInt64).toInt32).toInt8.toInt32)), .val (.int ((p1 - p2) - (1 : Int32)))] [(.int (((48 : Int32) + p5).toInt8.toInt32))])) _
              rw [if_neg hc12_1, if_pos hc24_2, if_neg hc29_3, if_pos hc54_5, if_pos hc59_6] at hr
              exact retN X0 hx (t := .byte) Bd.returns (by simp) (hb hby d1_68) hr
            · refine XS.ifYes X0.here hx rfl (pc0 := 59) (pc' := 69) rfl (hb hby d1_59) rfl ((if0 _ _).trans (feq hc59_6).2) (by decide) (by decide) ?_
              show Steps p.tables e below (s₁.setTop (mkF m 69 #[.val (.int p1), .val (.int p2), .val (.int p3), .val (.int p4), .val (.int p5), .val (.long q6), .second, .val (.long q7), .second, .val (.int ((((q7.toUInt64 >>> (((2 : Int32) * p1) &&& 0x3f).toInt64.toUInt64).toInt64).toInt32).toInt8.toInt32)), .val (.int ((p1 - p2) - (1 : Int32)))] [])) _
              refine XS.bipush X0.here hx rfl (hb hby d1_69) ?_
              show Steps p.tables e below (s₁.setTop (mkF m 71 #[.val (.int p1), .val (.int p2), .val (.int p3), .val (.int p4), .val (.int p5), .val (.long q6), .second, .val (.long q7), .second, .val (.int ((((q7.toUInt64 >>> (((2 : Int32) * p1) &&& 0x3f).toInt64.toUInt64).toInt64).toInt32).toInt8.toInt32)), .val (.int ((p1 - p2) - (1 : Int32)))] [(.int (48 : Int32))])) _
              refine XS.lload X0.here hx rfl (hb hby d1_71) rfl ?_
              show Steps p.tables e below (s₁.setTop (mkF m 73 #[.val (.int p1), .val (.int p2), .val (.int p3), .val (.int p4), .val (.int p5), .val (.long q6), .second, .val (.long q7), .second, .val (.int ((((q7.toUInt64 >>> (((2 : Int32) * p1) &&& 0x3f).toInt64.toUInt64).toInt64).toInt32).toInt8.toInt32)), .val (.int ((p1 - p2) - (1 : Int32)))] [(.long q6), (.int (48 : Int32))])) _
              refine XS.iconst X0.here hx rfl (hb hby d1_73) ?_
              show Steps p.tables e below (s₁.setTop (mkF m 74 #[.val (.int p1), .val (.int p2), .val (.int p3), .val (.int p4), .val (.int p5), .val (.long q6), .second, .val (.long q7), .second, .val (.int ((((q7.toUInt64 >>> (((2 : Int32) * p1) &&& 0x3f).toInt64.toUInt64).toInt64).toInt32).toInt8.toInt32)), .val (.int ((p1 - p2) - (1 : Int32)))] [(.int (3 : Int32)), (.long q6), (.int (48 : Int32))])) _
              refine XS.iload X0.here hx rfl (hb hby d1_74) rfl ?_
              show Steps p.tables e below (s₁.setTop (mkF m 76 #[.val (.int p1), .val (.int p2), .val (.int p3), .val (.int p4), .val (.int p5), .val (.long q6), .second, .val (.long q7), .second, .val (.int ((((q7.toUInt64 >>> (((2 : Int32) * p1) &&& 0x3f).toInt64.toUInt64).toInt64).toInt32).toInt8.toInt32)), .val (.int ((p1 - p2) - (1 : Int32)))] [(.int ((p1 - p2) - (1 : Int32))), (.int (3 : Int32)), (.long q6), (.int (48 : Int32))])) _
              refine XS.imul X0.here hx rfl (hb hby d1_76) rfl ?_
              show Steps p.tables e below (s₁.setTop (mkF m 77 #[.val (.int p1), .val (.int p2), .val (.int p3), .val (.int p4), .val (.int p5), .val (.long q6), .second, .val (.long q7), .second, .val (.int ((((q7.toUInt64 >>> (((2 : Int32) * p1) &&& 0x3f).toInt64.toUInt64).toInt64).toInt32).toInt8.toInt32)), .val (.int ((p1 - p2) - (1 : Int32)))] [(.int ((3 : Int32) * ((p1 - p2) - (1 : Int32)))), (.long q6), (.int (48 : Int32))])) _
              refine XS.lushr X0.here hx rfl (hb hby d1_77) rfl ?_
              show Steps p.tables e below (s₁.setTop (mkF m 78 #[.val (.int p1), .val (.int p2), .val (.int p3), .val (.int p4), .val (.int p5), .val (.long q6), .second, .val (.long q7), .second, .val (.int ((((q7.toUInt64 >>> (((2 : Int32) * p1) &&& 0x3f).toInt64.toUInt64).toInt64).toInt32).toInt8.toInt32)), .val (.int ((p1 - p2) - (1 : Int32)))] [(.long ((q6.toUInt64 >>> (((3 : Int32) * ((p1 - p2) - (1 : Int32))) &&& 0x3f).toInt64.toUInt64).toInt64)), (.int (48 : Int32))])) _
              refine X0.ldc2Long hx hown (mvT hZ (hw _ (List.mem_of_getElem? (i := 6) rfl))) (g := (mkF m 78 #[.val (.int p1), .val (.int p2), .val (.int p3), .val (.int p4), .val (.int p5), .val (.long q6), .second, .val (.long q7), .second, .val (.int ((((q7.toUInt64 >>> (((2 : Int32) * p1) &&& 0x3f).toInt64.toUInt64).toInt64).toInt32).toInt8.toInt32)), .val (.int ((p1 - p2) - (1 : Int32)))] [(.long ((q6.toUInt64 >>> (((3 : Int32) * ((p1 - p2) - (1 : Int32))) &&& 0x3f).toInt64.toUInt64).toInt64)), (.int (48 : Int32))])) rfl (hb hby d1_78) _ ?_
              show Steps p.tables e below (s₁.setTop (mkF m 81 #[.val (.int p1), .val (.int p2), .val (.int p3), .val (.int p4), .val (.int p5), .val (.long q6), .second, .val (.long q7), .second, .val (.int ((((q7.toUInt64 >>> (((2 : Int32) * p1) &&& 0x3f).toInt64.toUInt64).toInt64).toInt32).toInt8.toInt32)), .val (.int ((p1 - p2) - (1 : Int32)))] [(.long (65535 : Int64)), (.long ((q6.toUInt64 >>> (((3 : Int32) * ((p1 - p2) - (1 : Int32))) &&& 0x3f).toInt64.toUInt64).toInt64)), (.int (48 : Int32))])) _
              refine XS.land X0.here hx rfl (hb hby d1_81) rfl ?_
              show Steps p.tables e below (s₁.setTop (mkF m 82 #[.val (.int p1), .val (.int p2), .val (.int p3), .val (.int p4), .val (.int p5), .val (.long q6), .second, .val (.long q7), .second, .val (.int ((((q7.toUInt64 >>> (((2 : Int32) * p1) &&& 0x3f).toInt64.toUInt64).toInt64).toInt32).toInt8.toInt32)), .val (.int ((p1 - p2) - (1 : Int32)))] [(.long (((q6.toUInt64 >>> (((3 : Int32) * ((p1 - p2) - (1 : Int32))) &&& 0x3f).toInt64.toUInt64).toInt64) &&& (65535 : Int64))), (.int (48 : Int32))])) _
              refine X0.ldc2Long hx hown (mvT hZ (hw _ (List.mem_of_getElem? (i := 7) rfl))) (g := (mkF m 82 #[.val (.int p1), .val (.int p2), .val (.int p3), .val (.int p4), .val (.int p5), .val (.long q6), .second, .val (.long q7), .second, .val (.int ((((q7.toUInt64 >>> (((2 : Int32) * p1) &&& 0x3f).toInt64.toUInt64).toInt64).toInt32).toInt8.toInt32)), .val (.int ((p1 - p2) - (1 : Int32)))] [(.long (((q6.toUInt64 >>> (((3 : Int32) * ((p1 - p2) - (1 : Int32))) &&& 0x3f).toInt64.toUInt64).toInt64) &&& (65535 : Int64))), (.int (48 : Int32))])) rfl (hb hby d1_82) _ ?_
              show Steps p.tables e below (s₁.setTop (mkF m 85 #[.val (.int p1), .val (.int p2), .val (.int p3), .val (.int p4), .val (.int p5), .val (.long q6), .second, .val (.long q7), .second, .val (.int ((((q7.toUInt64 >>> (((2 : Int32) * p1) &&& 0x3f).toInt64.toUInt64).toInt64).toInt32).toInt8.toInt32)), .val (.int ((p1 - p2) - (1 : Int32)))] [(.long (10 : Int64)), (.long (((q6.toUInt64 >>> (((3 : Int32) * ((p1 - p2) - (1 : Int32))) &&& 0x3f).toInt64.toUInt64).toInt64) &&& (65535 : Int64))), (.int (48 : Int32))])) _
              refine XS.lrem X0.here hx rfl (hb hby d1_85) rfl (by decide) ?_
              show Steps p.tables e below (s₁.setTop (mkF m 86 #[.val (.int p1), .val (.int p2), .val (.int p3), .val (.int p4), .val (.int p5), .val (.long q6), .second, .val (.long q7), .second, .val (.int ((((q7.toUInt64 >>> (((2 : Int32) * p1) &&& 0x3f).toInt64.toUInt64).toInt64).toInt32).toInt8.toInt32)), .val (.int ((p1 - p2) - (1 : Int32)))] [(.long ((((q6.toUInt64 >>> (((3 : Int32) * ((p1 - p2) - (1 : Int32))) &&& 0x3f).toInt64.toUInt64).toInt64) &&& (65535 : Int64)) - ((((q6.toUInt64 >>> (((3 : Int32) * ((p1 - p2) - (1 : Int32))) &&& 0x3f).toInt64.toUInt64).toInt64) &&& (65535 : Int64)) / (10 : Int64)) * (10 : Int64))), (.int (48 : Int32))])) _
              refine XS.l2i X0.here hx rfl (hb hby d1_86) rfl ?_
              show Steps p.tables e below (s₁.setTop (mkF m 87 #[.val (.int p1), .val (.int p2), .val (.int p3), .val (.int p4), .val (.int p5), .val (.long q6), .second, .val (.long q7), .second, .val (.int ((((q7.toUInt64 >>> (((2 : Int32) * p1) &&& 0x3f).toInt64.toUInt64).toInt64).toInt32).toInt8.toInt32)), .val (.int ((p1 - p2) - (1 : Int32)))] [(.int (((((q6.toUInt64 >>> (((3 : Int32) * ((p1 - p2) - (1 : Int32))) &&& 0x3f).toInt64.toUInt64).toInt64) &&& (65535 : Int64)) - ((((q6.toUInt64 >>> (((3 : Int32) * ((p1 - p2) - (1 : Int32))) &&& 0x3f).toInt64.toUInt64).toInt64) &&& (65535 : Int64)) / (10 : Int64)) * (10 : Int64)).toInt32)), (.int (48 : Int32))])) _
              refine XS.iadd X0.here hx rfl (hb hby d1_87) rfl ?_
              show Steps p.tables e below (s₁.setTop (mkF m 88 #[.val (.int p1), .val (.int p2), .val (.int p3), .val (.int p4), .val (.int p5), .val (.long q6), .second, .val (.long q7), .second, .val (.int ((((q7.toUInt64 >>> (((2 : Int32) * p1) &&& 0x3f).toInt64.toUInt64).toInt64).toInt32).toInt8.toInt32)), .val (.int ((p1 - p2) - (1 : Int32)))] [(.int ((48 : Int32) + (((((q6.toUInt64 >>> (((3 : Int32) * ((p1 - p2) - (1 : Int32))) &&& 0x3f).toInt64.toUInt64).toInt64) &&& (65535 : Int64)) - ((((q6.toUInt64 >>> (((3 : Int32) * ((p1 - p2) - (1 : Int32))) &&& 0x3f).toInt64.toUInt64).toInt64) &&& (65535 : Int64)) / (10 : Int64)) * (10 : Int64)).toInt32)))])) _
              refine XS.i2b X0.here hx rfl (hb hby d1_88) rfl ?_
              show Steps p.tables e below (s₁.setTop (mkF m 89 #[.val (.int p1), .val (.int p2), .val (.int p3), .val (.int p4), .val (.int p5), .val (.long q6), .second, .val (.long q7), .second, .val (.int ((((q7.toUInt64 >>> (((2 : Int32) * p1) &&& 0x3f).toInt64.toUInt64).toInt64).toInt32).toInt8.toInt32)), .val (.int ((p1 - p2) - (1 : Int32)))] [(.int (((48 : Int32) + (((((q6.toUInt64 >>> (((3 : Int32) * ((p1 - p2) - (1 : Int32))) &&& 0x3f).toInt64.toUInt64).toInt64) &&& (65535 : Int64)) - ((((q6.toUInt64 >>> (((3 : Int32) * ((p1 - p2) - (1 : Int32))) &&& 0x3f).toInt64.toUInt64).toInt64) &&& (65535 : Int64)) / (10 : Int64)) * (10 : Int64)).toInt32)).toInt8.toInt32))])) _
              rw [if_neg hc12_1, if_pos hc24_2, if_neg hc29_3, if_pos hc54_5, if_neg hc59_6] at hr
              exact retN X0 hx (t := .byte) Bd.returns (by simp) (hb hby d1_89) hr
          · refine XS.icmpYes X0.here hx rfl (pc0 := 54) (pc' := 90) rfl (hb hby d1_54) rfl (flt hc54_5).2.1 (by decide) (by decide) ?_
            show Steps p.tables e below (s₁.setTop (mkF m 90 #[.val (.int p1), .val (.int p2), .val (.int p3), .val (.int p4), .val (.int p5), .val (.long q6), .second, .val (.long q7), .second, .val (.int ((((q7.toUInt64 >>> (((2 : Int32) * p1) &&& 0x3f).toInt64.toUInt64).toInt64).toInt32).toInt8.toInt32)), .val (.int ((p1 - p2) - (1 : Int32)))] [])) _
            refine XS.iload X0.here hx rfl (hb hby d1_90) rfl ?_
            show Steps p.tables e below (s₁.setTop (mkF m 92 #[.val (.int p1), .val (.int p2), .val (.int p3), .val (.int p4), .val (.int p5), .val (.long q6), .second, .val (.long q7), .second, .val (.int ((((q7.toUInt64 >>> (((2 : Int32) * p1) &&& 0x3f).toInt64.toUInt64).toInt64).toInt32).toInt8.toInt32)), .val (.int ((p1 - p2) - (1 : Int32)))] [(.int ((((q7.toUInt64 >>> (((2 : Int32) * p1) &&& 0x3f).toInt64.toUInt64).toInt64).toInt32).toInt8.toInt32))])) _
            rw [if_neg hc12_1, if_pos hc24_2, if_neg hc29_3, if_neg hc54_5] at hr
            exact retN X0 hx (t := .byte) Bd.returns (by simp) (hb hby d1_92) hr
      · refine XS.ifYes X0.here hx rfl (pc0 := 24) (pc' := 51) rfl (hb hby d1_24) rfl ((if0 _ _).trans (flt hc24_2).2.2.2) (by decide) (by decide) ?_
        show Steps p.tables e below (s₁.setTop (mkF m 51 #[.val (.int p1), .val (.int p2), .val (.int p3), .val (.int p4), .val (.int p5), .val (.long q6), .second, .val (.long q7), .second, .val (.int ((((q7.toUInt64 >>> (((2 : Int32) * p1) &&& 0x3f).toInt64.toUInt64).toInt64).toInt32).toInt8.toInt32)), .val (.int (p1 - p2))] [])) _
        refine XS.iload X0.here hx rfl (hb hby d1_51) rfl ?_
        show Steps p.tables e below (s₁.setTop (mkF m 53 #[.val (.int p1), .val (.int p2), .val (.int p3), .val (.int p4), .val (.int p5), .val (.long q6), .second, .val (.long q7), .second, .val (.int ((((q7.toUInt64 >>> (((2 : Int32) * p1) &&& 0x3f).toInt64.toUInt64).toInt64).toInt32).toInt8.toInt32)), .val (.int (p1 - p2))] [(.int (p1 - p2))])) _
        refine XS.iloadN X0.here hx rfl (hb hby d1_53) rfl ?_
        show Steps p.tables e below (s₁.setTop (mkF m 54 #[.val (.int p1), .val (.int p2), .val (.int p3), .val (.int p4), .val (.int p5), .val (.long q6), .second, .val (.long q7), .second, .val (.int ((((q7.toUInt64 >>> (((2 : Int32) * p1) &&& 0x3f).toInt64.toUInt64).toInt64).toInt32).toInt8.toInt32)), .val (.int (p1 - p2))] [(.int p4), (.int (p1 - p2))])) _
        by_cases hc54_7 : (p1 - p2) < p4
        · refine XS.icmpNo X0.here hx rfl (hb hby d1_54) rfl (tlt hc54_7).2.1 ?_
          show Steps p.tables e below (s₁.setTop (mkF m 57 #[.val (.int p1), .val (.int p2), .val (.int p3), .val (.int p4), .val (.int p5), .val (.long q6), .second, .val (.long q7), .second, .val (.int ((((q7.toUInt64 >>> (((2 : Int32) * p1) &&& 0x3f).toInt64.toUInt64).toInt64).toInt32).toInt8.toInt32)), .val (.int (p1 - p2))] [])) _
          refine XS.iload X0.here hx rfl (hb hby d1_57) rfl ?_
          show Steps p.tables e below (s₁.setTop (mkF m 59 #[.val (.int p1), .val (.int p2), .val (.int p3), .val (.int p4), .val (.int p5), .val (.long q6), .second, .val (.long q7), .second, .val (.int ((((q7.toUInt64 >>> (((2 : Int32) * p1) &&& 0x3f).toInt64.toUInt64).toInt64).toInt32).toInt8.toInt32)), .val (.int (p1 - p2))] [(.int (p1 - p2))])) _
          by_cases hc59_8 : (p1 - p2) = (0 : Int32)
          · refine XS.ifNo X0.here hx rfl (hb hby d1_59) rfl ((if0 _ _).trans (teq hc59_8).2) ?_
            show Steps p.tables e below (s₁.setTop (mkF m 62 #[.val (.int p1), .val (.int p2), .val (.int p3), .val (.int p4), .val (.int p5), .val (.long q6), .second, .val (.long q7), .second, .val (.int ((((q7.toUInt64 >>> (((2 : Int32) * p1) &&& 0x3f).toInt64.toUInt64).toInt64).toInt32).toInt8.toInt32)), .val (.int (p1 - p2))] [])) _
            refine XS.bipush X0.here hx rfl (hb hby d1_62) ?_
            show Steps p.tables e below (s₁.setTop (mkF m 64 #[.val (.int p1), .val (.int p2), .val (.int p3), .val (.int p4), .val (.int p5), .val (.long q6), .second, .val (.long q7), .second, .val (.int ((((q7.toUInt64 >>> (((2 : Int32) * p1) &&& 0x3f).toInt64.toUInt64).toInt64).toInt32).toInt8.toInt32)), .val (.int (p1 - p2))] [(.int (48 : Int32))])) _
            refine XS.iload X0.here hx rfl (hb hby d1_64) rfl ?_
            show Steps p.tables e below (s₁.setTop (mkF m 66 #[.val (.int p1), .val (.int p2), .val (.int p3), .val (.int p4), .val (.int p5), .val (.long q6), .second, .val (.long q7), .second, .val (.int ((((q7.toUInt64 >>> (((2 : Int32) * p1) &&& 0x3f).toInt64.toUInt64).toInt64).toInt32).toInt8.toInt32)), .val (.int (p1 - p2))] [(.int p5), (.int (48 : Int32))])) _
            refine XS.iadd X0.here hx rfl (hb hby d1_66) rfl ?_
            show Steps p.tables e below (s₁.setTop (mkF m 67 #[.val (.int p1), .val (.int p2), .val (.int p3), .val (.int p4), .val (.int p5), .val (.long q6), .second, .val (.long q7), .second, .val (.int ((((q7.toUInt64 >>> (((2 : Int32) * p1) &&& 0x3f).toInt64.toUInt64).toInt64).toInt32).toInt8.toInt32)), .val (.int (p1 - p2))] [(.int ((48 : Int32) + p5))])) _
            refine XS.i2b X0.here hx rfl (hb hby d1_67) rfl ?_
            show Steps p.tables e below (s₁.setTop (mkF m 68 #[.val (.int p1), .val (.int p2), .val (.int p3), .val (.int p4), .val (.int p5), .val (.long q6), .second, .val (.long q7), .second, .val (.int ((((q7.toUInt64 >>> (((2 : Int32) * p1) &&& 0x3f).toInt64.toUInt64).toInt64).toInt32).toInt8.toInt32)), .val (.int (p1 - p2))] [(.int (((48 : Int32) + p5).toInt8.toInt32))])) _
            rw [if_neg hc12_1, if_neg hc24_2, if_pos hc54_7, if_pos hc59_8] at hr
            exact retN X0 hx (t := .byte) Bd.returns (by simp) (hb hby d1_68) hr
          · refine XS.ifYes X0.here hx rfl (pc0 := 59) (pc' := 69) rfl (hb hby d1_59) rfl ((if0 _ _).trans (feq hc59_8).2) (by decide) (by decide) ?_
            show Steps p.tables e below (s₁.setTop (mkF m 69 #[.val (.int p1), .val (.int p2), .val (.int p3), .val (.int p4), .val (.int p5), .val (.long q6), .second, .val (.long q7), .second, .val (.int ((((q7.toUInt64 >>> (((2 : Int32) * p1) &&& 0x3f).toInt64.toUInt64).toInt64).toInt32).toInt8.toInt32)), .val (.int (p1 - p2))] [])) _
            refine XS.bipush X0.here hx rfl (hb hby d1_69) ?_
            show Steps p.tables e below (s₁.setTop (mkF m 71 #[.val (.int p1), .val (.int p2), .val (.int p3), .val (.int p4), .val (.int p5), .val (.long q6), .second, .val (.long q7), .second, .val (.int ((((q7.toUInt64 >>> (((2 : Int32) * p1) &&& 0x3f).toInt64.toUInt64).toInt64).toInt32).toInt8.toInt32)), .val (.int (p1 - p2))] [(.int (48 : Int32))])) _
            refine XS.lload X0.here hx rfl (hb hby d1_71) rfl ?_
            show Steps p.tables e below (s₁.setTop (mkF m 73 #[.val (.int p1), .val (.int p2), .val (.int p3), .val (.int p4), .val (.int p5), .val (.long q6), .second, .val (.long q7), .second, .val (.int ((((q7.toUInt64 >>> (((2 : Int32) * p1) &&& 0x3f).toInt64.toUInt64).toInt64).toInt32).toInt8.toInt32)), .val (.int (p1 - p2))] [(.long q6), (.int (48 : Int32))])) _
            refine XS.iconst X0.here hx rfl (hb hby d1_73) ?_
            show Steps p.tables e below (s₁.setTop (mkF m 74 #[.val (.int p1), .val (.int p2), .val (.int p3), .val (.int p4), .val (.int p5), .val (.long q6), .second, .val (.long q7), .second, .val (.int ((((q7.toUInt64 >>> (((2 : Int32) * p1) &&& 0x3f).toInt64.toUInt64).toInt64).toInt32).toInt8.toInt32)), .val (.int (p1 - p2))] [(.int (3 : Int32)), (.long q6), (.int (48 : Int32))])) _
            refine XS.iload X0.here hx rfl (hb hby d1_74) rfl ?_
            show Steps p.tables e below (s₁.setTop (mkF m 76 #[.val (.int p1), .val (.int p2), .val (.int p3), .val (.int p4), .val (.int p5), .val (.long q6), .second, .val (.long q7), .second, .val (.int ((((q7.toUInt64 >>> (((2 : Int32) * p1) &&& 0x3f).toInt64.toUInt64).toInt64).toInt32).toInt8.toInt32)), .val (.int (p1 - p2))] [(.int (p1 - p2)), (.int (3 : Int32)), (.long q6), (.int (48 : Int32))])) _
            refine XS.imul X0.here hx rfl (hb hby d1_76) rfl ?_
            show Steps p.tables e below (s₁.setTop (mkF m 77 #[.val (.int p1), .val (.int p2), .val (.int p3), .val (.int p4), .val (.int p5), .val (.long q6), .second, .val (.long q7), .second, .val (.int ((((q7.toUInt64 >>> (((2 : Int32) * p1) &&& 0x3f).toInt64.toUInt64).toInt64).toInt32).toInt8.toInt32)), .val (.int (p1 - p2))] [(.int ((3 : Int32) * (p1 - p2))), (.long q6), (.int (48 : Int32))])) _
            refine XS.lushr X0.here hx rfl (hb hby d1_77) rfl ?_
            show Steps p.tables e below (s₁.setTop (mkF m 78 #[.val (.int p1), .val (.int p2), .val (.int p3), .val (.int p4), .val (.int p5), .val (.long q6), .second, .val (.long q7), .second, .val (.int ((((q7.toUInt64 >>> (((2 : Int32) * p1) &&& 0x3f).toInt64.toUInt64).toInt64).toInt32).toInt8.toInt32)), .val (.int (p1 - p2))] [(.long ((q6.toUInt64 >>> (((3 : Int32) * (p1 - p2)) &&& 0x3f).toInt64.toUInt64).toInt64)), (.int (48 : Int32))])) _
            refine X0.ldc2Long hx hown (mvT hZ (hw _ (List.mem_of_getElem? (i := 6) rfl))) (g := (mkF m 78 #[.val (.int p1), .val (.int p2), .val (.int p3), .val (.int p4), .val (.int p5), .val (.long q6), .second, .val (.long q7), .second, .val (.int ((((q7.toUInt64 >>> (((2 : Int32) * p1) &&& 0x3f).toInt64.toUInt64).toInt64).toInt32).toInt8.toInt32)), .val (.int (p1 - p2))] [(.long ((q6.toUInt64 >>> (((3 : Int32) * (p1 - p2)) &&& 0x3f).toInt64.toUInt64).toInt64)), (.int (48 : Int32))])) rfl (hb hby d1_78) _ ?_
            show Steps p.tables e below (s₁.setTop (mkF m 81 #[.val (.int p1), .val (.int p2), .val (.int p3), .val (.int p4), .val (.int p5), .val (.long q6), .second, .val (.long q7), .second, .val (.int ((((q7.toUInt64 >>> (((2 : Int32) * p1) &&& 0x3f).toInt64.toUInt64).toInt64).toInt32).toInt8.toInt32)), .val (.int (p1 - p2))] [(.long (65535 : Int64)), (.long ((q6.toUInt64 >>> (((3 : Int32) * (p1 - p2)) &&& 0x3f).toInt64.toUInt64).toInt64)), (.int (48 : Int32))])) _
            refine XS.land X0.here hx rfl (hb hby d1_81) rfl ?_
            show Steps p.tables e below (s₁.setTop (mkF m 82 #[.val (.int p1), .val (.int p2), .val (.int p3), .val (.int p4), .val (.int p5), .val (.long q6), .second, .val (.long q7), .second, .val (.int ((((q7.toUInt64 >>> (((2 : Int32) * p1) &&& 0x3f).toInt64.toUInt64).toInt64).toInt32).toInt8.toInt32)), .val (.int (p1 - p2))] [(.long (((q6.toUInt64 >>> (((3 : Int32) * (p1 - p2)) &&& 0x3f).toInt64.toUInt64).toInt64) &&& (65535 : Int64))), (.int (48 : Int32))])) _
            refine X0.ldc2Long hx hown (mvT hZ (hw _ (List.mem_of_getElem? (i := 7) rfl))) (g := (mkF m 82 #[.val (.int p1), .val (.int p2), .val (.int p3), .val (.int p4), .val (.int p5), .val (.long q6), .second, .val (.long q7), .second, .val (.int ((((q7.toUInt64 >>> (((2 : Int32) * p1) &&& 0x3f).toInt64.toUInt64).toInt64).toInt32).toInt8.toInt32)), .val (.int (p1 - p2))] [(.long (((q6.toUInt64 >>> (((3 : Int32) * (p1 - p2)) &&& 0x3f).toInt64.toUInt64).toInt64) &&& (65535 : Int64))), (.int (48 : Int32))])) rfl (hb hby d1_82) _ ?_
            show Steps p.tables e below (s₁.setTop (mkF m 85 #[.val (.int p1), .val (.int p2), .val (.int p3), .val (.int p4), .val (.int p5), .val (.long q6), .second, .val (.long q7), .second, .val (.int ((((q7.toUInt64 >>> (((2 : Int32) * p1) &&& 0x3f).toInt64.toUInt64).toInt64).toInt32).toInt8.toInt32)), .val (.int (p1 - p2))] [(.long (10 : Int64)), (.long (((q6.toUInt64 >>> (((3 : Int32) * (p1 - p2)) &&& 0x3f).toInt64.toUInt64).toInt64) &&& (65535 : Int64))), (.int (48 : Int32))])) _
            refine XS.lrem X0.here hx rfl (hb hby d1_85) rfl (by decide) ?_
            show Steps p.tables e below (s₁.setTop (mkF m 86 #[.val (.int p1), .val (.int p2), .val (.int p3), .val (.int p4), .val (.int p5), .val (.long q6), .second, .val (.long q7), .second, .val (.int ((((q7.toUInt64 >>> (((2 : Int32) * p1) &&& 0x3f).toInt64.toUInt64).toInt64).toInt32).toInt8.toInt32)), .val (.int (p1 - p2))] [(.long ((((q6.toUInt64 >>> (((3 : Int32) * (p1 - p2)) &&& 0x3f).toInt64.toUInt64).toInt64) &&& (65535 : Int64)) - ((((q6.toUInt64 >>> (((3 : Int32) * (p1 - p2)) &&& 0x3f).toInt64.toUInt64).toInt64) &&& (65535 : Int64)) / (10 : Int64)) * (10 : Int64))), (.int (48 : Int32))])) _
            refine XS.l2i X0.here hx rfl (hb hby d1_86) rfl ?_
            show Steps p.tables e below (s₁.setTop (mkF m 87 #[.val (.int p1), .val (.int p2), .val (.int p3), .val (.int p4), .val (.int p5), .val (.long q6), .second, .val (.long q7), .second, .val (.int ((((q7.toUInt64 >>> (((2 : Int32) * p1) &&& 0x3f).toInt64.toUInt64).toInt64).toInt32).toInt8.toInt32)), .val (.int (p1 - p2))] [(.int (((((q6.toUInt64 >>> (((3 : Int32) * (p1 - p2)) &&& 0x3f).toInt64.toUInt64).toInt64) &&& (65535 : Int64)) - ((((q6.toUInt64 >>> (((3 : Int32) * (p1 - p2)) &&& 0x3f).toInt64.toUInt64).toInt64) &&& (65535 : Int64)) / (10 : Int64)) * (10 : Int64)).toInt32)), (.int (48 : Int32))])) _
            refine XS.iadd X0.here hx rfl (hb hby d1_87) rfl ?_
            show Steps p.tables e below (s₁.setTop (mkF m 88 #[.val (.int p1), .val (.int p2), .val (.int p3), .val (.int p4), .val (.int p5), .val (.long q6), .second, .val (.long q7), .second, .val (.int ((((q7.toUInt64 >>> (((2 : Int32) * p1) &&& 0x3f).toInt64.toUInt64).toInt64).toInt32).toInt8.toInt32)), .val (.int (p1 - p2))] [(.int ((48 : Int32) + (((((q6.toUInt64 >>> (((3 : Int32) * (p1 - p2)) &&& 0x3f).toInt64.toUInt64).toInt64) &&& (65535 : Int64)) - ((((q6.toUInt64 >>> (((3 : Int32) * (p1 - p2)) &&& 0x3f).toInt64.toUInt64).toInt64) &&& (65535 : Int64)) / (10 : Int64)) * (10 : Int64)).toInt32)))])) _
            refine XS.i2b X0.here hx rfl (hb hby d1_88) rfl ?_
            show Steps p.tables e below (s₁.setTop (mkF m 89 #[.val (.int p1), .val (.int p2), .val (.int p3), .val (.int p4), .val (.int p5), .val (.long q6), .second, .val (.long q7), .second, .val (.int ((((q7.toUInt64 >>> (((2 : Int32) * p1) &&& 0x3f).toInt64.toUInt64).toInt64).toInt32).toInt8.toInt32)), .val (.int (p1 - p2))] [(.int (((48 : Int32) + (((((q6.toUInt64 >>> (((3 : Int32) * (p1 - p2)) &&& 0x3f).toInt64.toUInt64).toInt64) &&& (65535 : Int64)) - ((((q6.toUInt64 >>> (((3 : Int32) * (p1 - p2)) &&& 0x3f).toInt64.toUInt64).toInt64) &&& (65535 : Int64)) / (10 : Int64)) * (10 : Int64)).toInt32)).toInt8.toInt32))])) _
            rw [if_neg hc12_1, if_neg hc24_2, if_pos hc54_7, if_neg hc59_8] at hr
            exact retN X0 hx (t := .byte) Bd.returns (by simp) (hb hby d1_89) hr
        · refine XS.icmpYes X0.here hx rfl (pc0 := 54) (pc' := 90) rfl (hb hby d1_54) rfl (flt hc54_7).2.1 (by decide) (by decide) ?_
          show Steps p.tables e below (s₁.setTop (mkF m 90 #[.val (.int p1), .val (.int p2), .val (.int p3), .val (.int p4), .val (.int p5), .val (.long q6), .second, .val (.long q7), .second, .val (.int ((((q7.toUInt64 >>> (((2 : Int32) * p1) &&& 0x3f).toInt64.toUInt64).toInt64).toInt32).toInt8.toInt32)), .val (.int (p1 - p2))] [])) _
          refine XS.iload X0.here hx rfl (hb hby d1_90) rfl ?_
          show Steps p.tables e below (s₁.setTop (mkF m 92 #[.val (.int p1), .val (.int p2), .val (.int p3), .val (.int p4), .val (.int p5), .val (.long q6), .second, .val (.long q7), .second, .val (.int ((((q7.toUInt64 >>> (((2 : Int32) * p1) &&& 0x3f).toInt64.toUInt64).toInt64).toInt32).toInt8.toInt32)), .val (.int (p1 - p2))] [(.int ((((q7.toUInt64 >>> (((2 : Int32) * p1) &&& 0x3f).toInt64.toUInt64).toInt64).toInt32).toInt8.toInt32))])) _
          rw [if_neg hc12_1, if_neg hc24_2, if_neg hc54_7] at hr
          exact retN X0 hx (t := .byte) Bd.returns (by simp) (hb hby d1_92) hr
  · show Q1 Z p1 p2 p3 p4 p5 q6 q7 h0 n0 _ s₁.heap _
    rw [e0]
    exact ⟨congrArg (fun z => some (Value.int z)) (show F1 p1 p2 p3 p4 p5 q6 q7 = (if p1 < p2 then (nar .byte ((((q7.toUInt64 >>> (((2 : Int32) * p1) &&& 0x3f).toInt64.toUInt64).toInt64).toInt32).toInt8.toInt32)) else (if (0 : Int32) < p3 then (if (p1 - p2) = (0 : Int32) then (if p3 = (1 : Int32) then (43 : Int32) else (45 : Int32)) else (if ((p1 - p2) - (1 : Int32)) < p4 then (if ((p1 - p2) - (1 : Int32)) = (0 : Int32) then (nar .byte (((48 : Int32) + p5).toInt8.toInt32)) else (nar .byte (((48 : Int32) + (((((q6.toUInt64 >>> (((3 : Int32) * ((p1 - p2) - (1 : Int32))) &&& 0x3f).toInt64.toUInt64).toInt64) &&& (65535 : Int64)) - ((((q6.toUInt64 >>> (((3 : Int32) * ((p1 - p2) - (1 : Int32))) &&& 0x3f).toInt64.toUInt64).toInt64) &&& (65535 : Int64)) / (10 : Int64)) * (10 : Int64)).toInt32)).toInt8.toInt32))) else (nar .byte ((((q7.toUInt64 >>> (((2 : Int32) * p1) &&& 0x3f).toInt64.toUInt64).toInt64).toInt32).toInt8.toInt32)))) else (if (p1 - p2) < p4 then (if (p1 - p2) = (0 : Int32) then (nar .byte (((48 : Int32) + p5).toInt8.toInt32)) else (nar .byte (((48 : Int32) + (((((q6.toUInt64 >>> (((3 : Int32) * (p1 - p2)) &&& 0x3f).toInt64.toUInt64).toInt64) &&& (65535 : Int64)) - ((((q6.toUInt64 >>> (((3 : Int32) * (p1 - p2)) &&& 0x3f).toInt64.toUInt64).toInt64) &&& (65535 : Int64)) / (10 : Int64)) * (10 : Int64)).toInt32)).toInt8.toInt32))) else (nar .byte ((((q7.toUInt64 >>> (((2 : Int32) * p1) &&& 0x3f).toInt64.toUInt64).toInt64).toInt32).toInt8.toInt32))))) by rw [F1]).symm, N0, rfl⟩
theorem d2_0 : decode prog_40_method_13_code 0 = .ok (.aload_n 0, 1) := by decide +kernel
theorem d2_1 : decode prog_40_method_13_code 1 = .ok (.iload_n 1, 1) := by decide +kernel
theorem d2_2 : decode prog_40_method_13_code 2 = .ok (.baload, 1) := by decide +kernel
theorem d2_3 : decode prog_40_method_13_code 3 = .ok (.bipush 45, 2) := by decide +kernel
theorem d2_5 : decode prog_40_method_13_code 5 = .ok (.if_icmp .ne 9, 3) := by decide +kernel
theorem d2_8 : decode prog_40_method_13_code 8 = .ok (.iload_n 1, 1) := by decide +kernel
theorem d2_9 : decode prog_40_method_13_code 9 = .ok (.iconst 1, 1) := by decide +kernel
theorem d2_10 : decode prog_40_method_13_code 10 = .ok (.iadd, 1) := by decide +kernel
theorem d2_11 : decode prog_40_method_13_code 11 = .ok (.goto 4, 3) := by decide +kernel
theorem d2_14 : decode prog_40_method_13_code 14 = .ok (.iload_n 1, 1) := by decide +kernel
theorem d2_15 : decode prog_40_method_13_code 15 = .ok (.istore_n 3, 1) := by decide +kernel
theorem d2_16 : decode prog_40_method_13_code 16 = .ok (.aload_n 0, 1) := by decide +kernel
theorem d2_17 : decode prog_40_method_13_code 17 = .ok (.iload_n 1, 1) := by decide +kernel
theorem d2_18 : decode prog_40_method_13_code 18 = .ok (.baload, 1) := by decide +kernel
theorem d2_19 : decode prog_40_method_13_code 19 = .ok (.bipush 43, 2) := by decide +kernel
theorem d2_21 : decode prog_40_method_13_code 21 = .ok (.if_icmp .eq 11, 3) := by decide +kernel
theorem d2_24 : decode prog_40_method_13_code 24 = .ok (.iload_n 2, 1) := by decide +kernel
theorem d2_25 : decode prog_40_method_13_code 25 = .ok (.iload_n 3, 1) := by decide +kernel
theorem d2_26 : decode prog_40_method_13_code 26 = .ok (.isub, 1) := by decide +kernel
theorem d2_27 : decode prog_40_method_13_code 27 = .ok (.bipush 18, 2) := by decide +kernel
theorem d2_29 : decode prog_40_method_13_code 29 = .ok (.if_icmp .le 5, 3) := by decide +kernel
theorem d2_32 : decode prog_40_method_13_code 32 = .ok (.iconst 0, 1) := by decide +kernel
theorem d2_33 : decode prog_40_method_13_code 33 = .ok (.ireturn, 1) := by decide +kernel
theorem d2_34 : decode prog_40_method_13_code 34 = .ok (.aload_n 0, 1) := by decide +kernel
theorem d2_35 : decode prog_40_method_13_code 35 = .ok (.iload_n 3, 1) := by decide +kernel
theorem d2_36 : decode prog_40_method_13_code 36 = .ok (.baload, 1) := by decide +kernel
theorem d2_37 : decode prog_40_method_13_code 37 = .ok (.bipush 48, 2) := by decide +kernel
theorem d2_39 : decode prog_40_method_13_code 39 = .ok (.if_icmp .ne 10, 3) := by decide +kernel
theorem d2_42 : decode prog_40_method_13_code 42 = .ok (.iload_n 2, 1) := by decide +kernel
theorem d2_43 : decode prog_40_method_13_code 43 = .ok (.iload_n 1, 1) := by decide +kernel
theorem d2_44 : decode prog_40_method_13_code 44 = .ok (.isub, 1) := by decide +kernel
theorem d2_45 : decode prog_40_method_13_code 45 = .ok (.iconst 1, 1) := by decide +kernel
theorem d2_46 : decode prog_40_method_13_code 46 = .ok (.if_icmp .ne 7, 3) := by decide +kernel
theorem d2_49 : decode prog_40_method_13_code 49 = .ok (.iconst 1, 1) := by decide +kernel
theorem d2_50 : decode prog_40_method_13_code 50 = .ok (.goto 4, 3) := by decide +kernel
theorem d2_53 : decode prog_40_method_13_code 53 = .ok (.iconst 0, 1) := by decide +kernel
theorem d2_54 : decode prog_40_method_13_code 54 = .ok (.ireturn, 1) := by decide +kernel
theorem pn_2 : plainName "com/example/levelwright/levelwright/BzwShape" = true := by first | (simp [plainName, overriddenIn]; done) | decide +kernel
theorem ef_2 (m : MethodId) (x0 : Addr) (x1 : Int32) (x2 : Int32) : entryFrame m #[(.ref x0), (.int x1), (.int x2)] 4 = mkF m 0 #[.val (.ref x0), .val (.int x1), .val (.int x2), .unset] [] := by first | (simp [entryFrame, mkF, argsToLocals, Value.category]; done) | rfl
def F2 (p2 : Int32) (p3 : Int32) (f : Int32 → Int32) : Int32 := (if (f p2) = (45 : Int32) then (if (f p2) = (43 : Int32) then (0 : Int32) else (if (18 : Int32) < (p3 - (p2 + (1 : Int32))) then (0 : Int32) else (if (f (p2 + (1 : Int32))) = (48 : Int32) then (if (p3 - p2) = (1 : Int32) then (1 : Int32) else (0 : Int32)) else (1 : Int32)))) else (if (f p2) = (43 : Int32) then (0 : Int32) else (if (18 : Int32) < (p3 - p2) then (0 : Int32) else (if (f p2) = (48 : Int32) then (if (p3 - p2) = (1 : Int32) then (1 : Int32) else (0 : Int32)) else (1 : Int32)))))
def Q2 (Z : State) (a1 : Addr) (p2 : Int32) (p3 : Int32) (f : Int32 → Int32) (ka : ClassId) (vs : List Value) (h0 : Heap) (n0 : Nat) (v : Option Value) (h : Heap) (L : List Loc) : Prop := v = some (.int (F2 p2 p3 f)) ∧ Fr n0 L ∧ h = h0
set_option maxRecDepth 65536 in
set_option maxHeartbeats 40000000 in
theorem rm2 (l : Launch) (Z : State) (a0 : Array Value) (hw : ∀ d ∈ tables_1, d.before a0 Z = true) (ws : List Jvm.Cond) (a1 : Addr) (p2 : Int32) (p3 : Int32) (f : Int32 → Int32) (ka : ClassId) (vs : List Value) (h0 : Heap) (n0 : Nat) (Z0 : n0 ≤ h0.size) (Va : Arv Z h0 a1 ka .byte (27 : Int32) vs (.int (0 : Int32))) (hf : ∀ j : Int32, (¬ j < (0 : Int32) ∧ j < (27 : Int32)) → vs.getD j.toNatClampNeg (.int (0 : Int32)) = .int (f j)) (h2 : ¬ p2 < (0 : Int32) ∧ p2 < (27 : Int32)) (h3 : ¬ (p2 + (1 : Int32)) < (0 : Int32) ∧ (p2 + (1 : Int32)) < (27 : Int32)) :
    MetFree l (⟨"com/example/levelwright/levelwright/BzwShape", "isPlainWhole", "([BII)Z"⟩ : MethodName) (head1 (Jvm.Cond.code (⟨"com/example/levelwright/levelwright/BzwShape", "isPlainWhole", "([BII)Z"⟩ : MethodName) prog_40_method_13_code 4 (some .boolean) :: ws) ({ frames := 0, cells := 0, slots := 0, locals := 0 } : Room)) (fun a U => a = #[(.ref a1), (.int p2), (.int p3)] ∧ Z.Warmed39 U.vm ∧ U.heap = h0) (fun _ _ _ _ _ => True) (fun _ U o U' => ∃ v L, o = .returned v ∧ Q2 Z a1 p2 p3 f ka vs h0 n0 v U'.heap L ∧ FrameEnd U o U' L ({ frames := 0, cells := 0, slots := 0, locals := 0 } : Room).cells ({ frames := 0, cells := 0, slots := 0, locals := 0 } : Room).slots) := by
  refine MetFree.of_bodySF (plainFor_of_name pn_2) hisR ?_
  intro p e s m args below meth c s₁ Bd hml0 hP hK
  obtain ⟨rfl, hZ, hh⟩ := hP
  have hx := Bd.exec
  have hby := Bd.bytes
  have hml : c.maxLocals = 4 := hml0
  have hown : s.vm.findClass "com/example/levelwright/levelwright/BzwShape" = some m.cls := findClass_of_methodNamed Bd.named
  have hnm := (name_of_methodNamed Bd.named Bd.method).1
  have X0 : Stand p l e ({ frames := 0, cells := 0, slots := 0, locals := 0 } : Room) s m #[(.ref a1), (.int p2), (.int p3)] below meth c s₁ [] 0 0 := Stand.of_body Bd
  have e0 : s₁.heap = h0 := by rw [← hh, Bd.state]; rfl
  have N0 := Fr.nil n0
  have pre0 : ∀ t, Steps p.tables e below (s₁.setTop (mkF m 0 #[.val (.ref a1), .val (.int p2), .val (.int p3), .unset] [])) t → Steps p.tables e below (s₁.setTop (entryFrame m #[(.ref a1), (.int p2), (.int p3)] 4)) t := fun t k => castTop (ef_2 m a1 p2 p3) k
  obtain ⟨fs, hr, hrun, hended, hW, hsame⟩ := X0.leave (v := some (.int (if (f p2) = (45 : Int32) then (if (f p2) = (43 : Int32) then (0 : Int32) else (if (18 : Int32) < (p3 - (p2 + (1 : Int32))) then (0 : Int32) else (if (f (p2 + (1 : Int32))) = (48 : Int32) then (if (p3 - p2) = (1 : Int32) then (1 : Int32) else (0 : Int32)) else (1 : Int32)))) else (if (f p2) = (43 : Int32) then (0 : Int32) else (if (18 : Int32) < (p3 - p2) then (0 : Int32) else (if (f p2) = (48 : Int32) then (if (p3 - p2) = (1 : Int32) then (1 : Int32) else (0 : Int32)) else (1 : Int32))))))) (fun h => by rw [Bd.returns] at h; cases h)
  refine ⟨_, _, pre0 _ ?_, hrun, hended, _, _, rfl, ?_, ⟨_, rfl⟩, hW, hsame.mono (by decide) (by decide)⟩
  · show Steps p.tables e below (s₁.setTop (mkF m 0 #[.val (.ref a1), .val (.int p2), .val (.int p3), .unset] [])) _
    refine XS.aloadN X0.here hx rfl (hb hby d2_0) rfl rfl ?_
    show Steps p.tables e below (s₁.setTop (mkF m 1 #[.val (.ref a1), .val (.int p2), .val (.int p3), .unset] [(.ref a1)])) _
    refine XS.iloadN X0.here hx rfl (hb hby d2_1) rfl ?_
    show Steps p.tables e below (s₁.setTop (mkF m 2 #[.val (.ref a1), .val (.int p2), .val (.int p3), .unset] [(.int p2), (.ref a1)])) _
    obtain ⟨cl1, Ar1, -, aS1, -, aH1, -⟩ := id Va
    have hin1 : ¬ (p2 < 0 ∨ cl1.slots.size ≤ (p2).toNatClampNeg) := inb_of aS1 h2
    refine X0.baloadBytes hx (j := p2) (v := (.int (f p2))) (by rw [e0]; exact Ar1.1) (State.isArrayOf_alike hZ.alike Ar1.2.1) Ar1.2.2 hin1 (Has.at aH1 hin1 (hf p2 h2)) (g := (mkF m 2 #[.val (.ref a1), .val (.int p2), .val (.int p3), .unset] [(.int p2), (.ref a1)])) rfl rfl (hb hby d2_2) _ ?_
    show Steps p.tables e below (s₁.setTop (mkF m 3 #[.val (.ref a1), .val (.int p2), .val (.int p3), .unset] [(.int (f p2))])) _
    refine XS.bipush X0.here hx rfl (hb hby d2_3) ?_
    show Steps p.tables e below (s₁.setTop (mkF m 5 #[.val (.ref a1), .val (.int p2), .val (.int p3), .unset] [(.int (45 : Int32)), (.int (f p2))])) _
    by_cases hc5_2 : (f p2) = (45 : Int32)
    · refine XS.icmpNo X0.here hx rfl (hb hby d2_5) rfl (teq hc5_2).2 ?_
      show Steps p.tables e below (s₁.setTop (mkF m 8 #[.val (.ref a1), .val (.int p2), .val (.int p3), .unset] [])) _
      refine XS.iloadN X0.here hx rfl (hb hby d2_8) rfl ?_
      show Steps p.tables e below (s₁.setTop (mkF m 9 #[.val (.ref a1), .val (.int p2), .val (.int p3), .unset] [(.int p2)])) _
      refine XS.iconst X0.here hx rfl (hb hby d2_9) ?_
      show Steps p.tables e below (s₁.setTop (mkF m 10 #[.val (.ref a1), .val (.int p2), .val (.int p3), .unset] [(.int (1 : Int32)), (.int p2)])) _
      refine XS.iadd X0.here hx rfl (hb hby d2_10) rfl ?_
      show Steps p.tables e below (s₁.setTop (mkF m 11 #[.val (.ref a1), .val (.int p2), .val (.int p3), .unset] [(.int (p2 + (1 : Int32)))])) _
      refine XS.goto X0.here hx rfl (pc0 := 11) (pc' := 15) rfl (hb hby d2_11) (by decide) (by decide) ?_
      show Steps p.tables e below (s₁.setTop (mkF m 15 #[.val (.ref a1), .val (.int p2), .val (.int p3), .unset] [(.int (p2 + (1 : Int32)))])) _
      refine XS.istoreN X0.here hx rfl (hb hby d2_15) rfl (l' := #[.val (.ref a1), .val (.int p2), .val (.int p3), .val (.int (p2 + (1 : Int32)))]) rfl ?_
      show Steps p.tables e below (s₁.setTop (mkF m 16 #[.val (.ref a1), .val (.int p2), .val (.int p3), .val (.int (p2 + (1 : Int32)))] [])) _
      refine XS.aloadN X0.here hx rfl (hb hby d2_16) rfl rfl ?_
      show Steps p.tables e below (s₁.setTop (mkF m 17 #[.val (.ref a1), .val (.int p2), .val (.int p3), .val (.int (p2 + (1 : Int32)))] [(.ref a1)])) _
      refine XS.iloadN X0.here hx rfl (hb hby d2_17) rfl ?_
      show Steps p.tables e below (s₁.setTop (mkF m 18 #[.val (.ref a1), .val (.int p2), .val (.int p3), .val (.int (p2 + (1 : Int32)))] [(.int p2), (.ref a1)])) _
      obtain ⟨cl3, Ar3, -, aS3, -, aH3, -⟩ := id Va
      have hin3 : ¬ (p2 < 0 ∨ cl3.slots.size ≤ (p2).toNatClampNeg) := inb_of aS3 h2
      refine X0.baloadBytes hx (j := p2) (v := (.int (f p2))) (by rw [e0]; exact Ar3.1) (State.isArrayOf_alike hZ.alike Ar3.2.1) Ar3.2.2 hin3 (Has.at aH3 hin3 (hf p2 h2)) (g := (mkF m 18 #[.val (.ref a1), .val (.int p2), .val (.int p3), .val (.int (p2 + (1 : Int32)))] [(.int p2), (.ref a1)])) rfl rfl (hb hby d2_18) _ ?_
      show Steps p.tables e below (s₁.setTop (mkF m 19 #[.val (.ref a1), .val (.int p2), .val (.int p3), .val (.int (p2 + (1 : Int32)))] [(.int (f p2))])) _
      refine XS.bipush X0.here hx rfl (hb hby d2_19) ?_
      show Steps p.tables e below (s₁.setTop (mkF m 21 #[.val (.ref a1), .val (.int p2), .val (.int p3), .val (.int (p2 + (1 : Int32)))] [(.int (43 : Int32)), (.int (f p2))])) _
      by_cases hc21_4 : (f p2) = (43 : Int32)
      · refine XS.icmpYes X0.here hx rfl (pc0 := 21) (pc' := 32) rfl (hb hby d2_21) rfl (teq hc21_4).1 (by decide) (by decide) ?_
        show Steps p.tables e below (s₁.setTop (mkF m 32 #[.val (.ref a1), .val (.int p2), .val (.int p3), .val (.int (p2 + (1 : Int32)))] [])) _
        refine XS.iconst X0.here hx rfl (hb hby d2_32) ?_
        show Steps p.tables e below (s₁.setTop (mkF m 33 #[.val (.ref a1), .val (.int p2), .val (.int p3), .val (.int (p2 + (1 : Int32)))] [(.int (0 : Int32))])) _
        rw [if_pos hc5_2, if_pos hc21_4] at hr
        exact retN X0 hx (t := .boolean) Bd.returns (by simp) (hb hby d2_33) hr
      · refine XS.icmpNo X0.here hx rfl (hb hby d2_21) rfl (feq hc21_4).1 ?_
        show Steps p.tables e below (s₁.setTop (mkF m 24 #[.val (.ref a1), .val (.int p2), .val (.int p3), .val (.int (p2 + (1 : Int32)))] [])) _
        refine XS.iloadN X0.here hx rfl (hb hby d2_24) rfl ?_
        show Steps p.tables e below (s₁.setTop (mkF m 25 #[.val (.ref a1), .val (.int p2), .val (.int p3), .val (.int (p2 + (1 : Int32)))] [(.int p3)])) _
        refine XS.iloadN X0.here hx rfl (hb hby d2_25) rfl ?_
        show Steps p.tables e below (s₁.setTop (mkF m 26 #[.val (.ref a1), .val (.int p2), .val (.int p3), .val (.int (p2 + (1 : Int32)))] [(.int (p2 + (1 : Int32))), (.int p3)])) _
        refine XS.isub X0.here hx rfl (hb hby d2_26) rfl ?_
        show Steps p.tables e below (s₁.setTop (mkF m 27 #[.val (.ref a1), .val (.int p2), .val (.int p3), .val (.int (p2 + (1 : Int32)))] [(.int (p3 - (p2 + (1 : Int32))))])) _
        refine XS.bipush X0.here hx rfl (hb hby d2_27) ?_
        show Steps p.tables e below (s₁.setTop (mkF m 29 #[.val (.ref a1), .val (.int p2), .val (.int p3), .val (.int (p2 + (1 : Int32)))] [(.int (18 : Int32)), (.int (p3 - (p2 + (1 : Int32))))])) _
        by_cases hc29_5 : (18 : Int32) < (p3 - (p2 + (1 : Int32)))
        · refine XS.icmpNo X0.here hx rfl (hb hby d2_29) rfl (tlt hc29_5).2.2.2 ?_
          show Steps p.tables e below (s₁.setTop (mkF m 32 #[.val (.ref a1), .val (.int p2), .val (.int p3), .val (.int (p2 + (1 : Int32)))] [])) _
          refine XS.iconst X0.here hx rfl (hb hby d2_32) ?_
          show Steps p.tables e below (s₁.setTop (mkF m 33 #[.val (.ref a1), .val (.int p2), .val (.int p3), .val (.int (p2 + (1 : Int32)))] [(.int (0 : Int32))])) _
          rw [if_pos hc5_2, if_neg hc21_4, if_pos hc29_5] at hr
          exact retN X0 hx (t := .boolean) Bd.returns (by simp) (hb hby d2_33) hr
        · refine XS.icmpYes X0.here hx rfl (pc0 := 29) (pc' := 34) rfl (hb hby d2_29) rfl (flt hc29_5).2.2.2 (by decide) (by decide) ?_
          show Steps p.tables e below (s₁.setTop (mkF m 34 #[.val (.ref a1), .val (.int p2), .val (.int p3), .val (.int (p2 + (1 : Int32)))] [])) _
          refine XS.aloadN X0.here hx rfl (hb hby d2_34) rfl rfl ?_
          show Steps p.tables e below (s₁.setTop (mkF m 35 #[.val (.ref a1), .val (.int p2), .val (.int p3), .val (.int (p2 + (1 : Int32)))] [(.ref a1)])) _
          refine XS.iloadN X0.here hx rfl (hb hby d2_35) rfl ?_
          show Steps p.tables e below (s₁.setTop (mkF m 36 #[.val (.ref a1), .val (.int p2), .val (.int p3), .val (.int (p2 + (1 : Int32)))] [(.int (p2 + (1 : Int32))), (.ref a1)])) _
          obtain ⟨cl6, Ar6, -, aS6, -, aH6, -⟩ := id Va
          have hin6 : ¬ ((p2 + (1 : Int32)) < 0 ∨ cl6.slots.size ≤ ((p2 + (1 : Int32))).toNatClampNeg) := inb_of aS6 h3
          refine X0.baloadBytes hx (j := (p2 + (1 : Int32))) (v := (.int (f (p2 + (1 : Int32))))) (by rw [e0]; exact Ar6.1) (State.isArrayOf_alike hZ.alike Ar6.2.1) Ar6.2.2 hin6 (Has.at aH6 hin6 (hf (p2 + (1 : Int32)) h3)) (g := (mkF m 36 #[.val (.ref a1), .val (.int p2), .val (.int p3), .val (.int (p2 + (1 : Int32)))] [(.int (p2 + (1 : Int32))), (.ref a1)])) rfl rfl (hb hby d2_36) _ ?_
          show Steps p.tables e below (s₁.setTop (mkF m 37 #[.val (.ref a1), .val (.int p2), .val (.int p3), .val (.int (p2 + (1 : Int32)))] [(.int (f (p2 + (1 : Int32))))])) _
          refine XS.bipush X0.here hx rfl (hb hby d2_37) ?_
          show Steps p.tables e below (s₁.setTop (mkF m 39 #[.val (.ref a1), .val (.int p2), .val (.int p3), .val (.int (p2 + (1 : Int32)))] [(.int (48 : Int32)), (.int (f (p2 + (1 : Int32))))])) _
          by_cases hc39_7 : (f (p2 + (1 : Int32))) = (48 : Int32)
          · refine XS.icmpNo X0.here hx rfl (hb hby d2_39) rfl (teq hc39_7).2 ?_
            show Steps p.tables e below (s₁.setTop (mkF m 42 #[.val (.ref a1), .val (.int p2), .val (.int p3), .val (.int (p2 + (1 : Int32)))] [])) _
            refine XS.iloadN X0.here hx rfl (hb hby d2_42) rfl ?_
            show Steps p.tables e below (s₁.setTop (mkF m 43 #[.val (.ref a1), .val (.int p2), .val (.int p3), .val (.int (p2 + (1 : Int32)))] [(.int p3)])) _
            refine XS.iloadN X0.here hx rfl (hb hby d2_43) rfl ?_
            show Steps p.tables e below (s₁.setTop (mkF m 44 #[.val (.ref a1), .val (.int p2), .val (.int p3), .val (.int (p2 + (1 : Int32)))] [(.int p2), (.int p3)])) _
            refine XS.isub X0.here hx rfl (hb hby d2_44) rfl ?_
            show Steps p.tables e below (s₁.setTop (mkF m 45 #[.val (.ref a1), .val (.int p2), .val (.int p3), .val (.int (p2 + (1 : Int32)))] [(.int (p3 - p2))])) _
            refine XS.iconst X0.here hx rfl (hb hby d2_45) ?_
            show Steps p.tables e below (s₁.setTop (mkF m 46 #[.val (.ref a1), .val (.int p2), .val (.int p3), .val (.int (p2 + (1 : Int32)))] [(.int (1 : Int32)), (.int (p3 - p2))])) _
            by_cases hc46_8 : (p3 - p2) = (1 : Int32)
            · refine XS.icmpNo X0.here hx rfl (hb hby d2_46) rfl (teq hc46_8).2 ?_
              show Steps p.tables e below (s₁.setTop (mkF m 49 #[.val (.ref a1), .val (.int p2), .val (.int p3), .val (.int (p2 + (1 : Int32)))] [])) _
              refine XS.iconst X0.here hx rfl (hb hby d2_49) ?_
              show Steps p.tables e below (s₁.setTop (mkF m 50 #[.val (.ref a1), .val (.int p2), .val (.int p3), .val (.int (p2 + (1 : Int32)))] [(.int (1 : Int32))])) _
              refine XS.goto X0.here hx rfl (pc0 := 50) (pc' := 54) rfl (hb hby d2_50) (by decide) (by decide) ?_
              show Steps p.tables e below (s₁.setTop (mkF m 54 #[.val (.ref a1), .val (.int p2), .val (.int p3), .val (.int (p2 + (1 : Int32)))] [(.int (1 : Int32))])) _
              rw [if_pos hc5_2, if_neg hc21_4, if_neg hc29_5, if_pos hc39_7, if_pos hc46_8] at hr
              exact retN X0 hx (t := .boolean) Bd.returns (by simp) (hb hby d2_54) hr
            · refine XS.icmpYes X0.here hx rfl (pc0 := 46) (pc' := 53) rfl (hb hby d2_46) rfl (feq hc46_8).2 (by decide) (by decide) ?_
              show Steps p.tables e below (s₁.setTop (mkF m 53 #[.val (.ref a1), .val (.int p2), .val (.int p3), .val (.int (p2 + (1 : Int32)))] [])) _
              refine XS.iconst X0.here hx rfl (hb hby d2_53) ?_
              show Steps p.tables e below (s₁.setTop (mkF m 54 #[.val (.ref a1), .val (.int p2), .val (.int p3), .val (.int (p2 + (1 : Int32)))] [(.int (0 : Int32))])) _
              rw [if_pos hc5_2, if_neg hc21_4, if_neg hc29_5, if_pos hc39_7, if_neg hc46_8] at hr
              exact retN X0 hx (t := .boolean) Bd.returns (by simp) (hb hby d2_54) hr
          · refine XS.icmpYes X0.here hx rfl (pc0 := 39) (pc' := 49) rfl (hb hby d2_39) rfl (feq hc39_7).2 (by decide) (by decide) ?_
            show Steps p.tables e below (s₁.setTop (mkF m 49 #[.val (.ref a1), .val (.int p2), .val (.int p3), .val (.int (p2 + (1 : Int32)))] [])) _
            refine XS.iconst X0.here hx rfl (hb hby d2_49) ?_
            show Steps p.tables e below (s₁.setTop (mkF m 50 #[.val (.ref a1), .val (.int p2), .val (.int p3), .val (.int (p2 + (1 : Int32)))] [(.int (1 : Int32))])) _
            refine XS.goto X0.here hx rfl (pc0 := 50) (pc' := 54) rfl (hb hby d2_50) (by decide) (by decide) ?_
            show Steps p.tables e below (s₁.setTop (mkF m 54 #[.val (.ref a1), .val (.int p2), .val (.int p3), .val (.int (p2 + (1 : Int32)))] [(.int (1 : Int32))])) _
            rw [if_pos hc5_2, if_neg hc21_4, if_neg hc29_5, if_neg hc39_7] at hr
            exact retN X0 hx (t := .boolean) Bd.returns (by simp) (hb hby d2_54) hr
    · refine XS.icmpYes X0.here hx rfl (pc0 := 5) (pc' := 14) rfl (hb hby d2_5) rfl (feq hc5_2).2 (by decide) (by decide) ?_
      show Steps p.tables e below (s₁.setTop (mkF m 14 #[.val (.ref a1), .val (.int p2), .val (.int p3), .unset] [])) _
      refine XS.iloadN X0.here hx rfl (hb hby d2_14) rfl ?_
      show Steps p.tables e below (s₁.setTop (mkF m 15 #[.val (.ref a1), .val (.int p2), .val (.int p3), .unset] [(.int p2)])) _
      refine XS.istoreN X0.here hx rfl (hb hby d2_15) rfl (l' := #[.val (.ref a1), .val (.int p2), .val (.int p3), .val (.int p2)]) rfl ?_
      show Steps p.tables e below (s₁.setTop (mkF m 16 #[.val (.ref a1), .val (.int p2), .val (.int p3), .val (.int p2)] [])) _
      refine XS.aloadN X0.here hx rfl (hb hby d2_16) rfl rfl ?_
      show Steps p.tables e below (s₁.setTop (mkF m 17 #[.val (.ref a1), .val (.int p2), .val (.int p3), .val (.int p2)] [(.ref a1)])) _
      refine XS.iloadN X0.here hx rfl (hb hby d2_17) rfl ?_
      show Steps p.tables e below (s₁.setTop (mkF m 18 #[.val (.ref a1), .val (.int p2), .val (.int p3), .val (.int p2)] [(.int p2), (.ref a1)])) _
      obtain ⟨cl9, Ar9, -, aS9, -, aH9, -⟩ := id Va
      have hin9 : ¬ (p2 < 0 ∨ cl9.slots.size ≤ (p2).toNatClampNeg) := inb_of aS9 h2
      refine X0.baloadBytes hx (j := p2) (v := (.int (f p2))) (by rw [e0]; exact Ar9.1) (State.isArrayOf_alike hZ.alike Ar9.2.1) Ar9.2.2 hin9 (Has.at aH9 hin9 (hf p2 h2)) (g := (mkF m 18 #[.val (.ref a1), .val (.int p2), .val (.int p3), .val (.int p2)] [(.int p2), (.ref a1)])) rfl rfl (hb hby d2_18) _ ?_
      show Steps p.tables e below (s₁.setTop (mkF m 19 #[.val (.ref a1), .val (.int p2), .val (.int p3), .val (.int p2)] [(.int (f p2))])) _
      refine XS.bipush X0.here hx rfl (hb hby d2_19) ?_
      show Steps p.tables e below (s₁.setTop (mkF m 21 #[.val (.ref a1), .val (.int p2), .val (.int p3), .val (.int p2)] [(.int (43 : Int32)), (.int (f p2))])) _
      by_cases hc21_10 : (f p2) = (43 : Int32)
      · refine XS.icmpYes X0.here hx rfl (pc0 := 21) (pc' := 32) rfl (hb hby d2_21) rfl (teq hc21_10).1 (by decide) (by decide) ?_
        show Steps p.tables e below (s₁.setTop (mkF m 32 #[.val (.ref a1), .val (.int p2), .val (.int p3), .val (.int p2)] [])) _
        refine XS.iconst X0.here hx rfl (hb hby d2_32) ?_
        show Steps p.tables e below (s₁.setTop (mkF m 33 #[.val (.ref a1), .val (.int p2), .val (.int p3), .val (.int p2)] [(.int (0 : Int32))])) _
        rw [if_neg hc5_2, if_pos hc21_10] at hr
        exact retN X0 hx (t := .boolean) Bd.returns (by simp) (hb hby d2_33) hr
      · refine XS.icmpNo X0.here hx rfl (hb hby d2_21) rfl (feq hc21_10).1 ?_
        show Steps p.tables e below (s₁.setTop (mkF m 24 #[.val (.ref a1), .val (.int p2), .val (.int p3), .val (.int p2)] [])) _
        refine XS.iloadN X0.here hx rfl (hb hby d2_24) rfl ?_
        show Steps p.tables e below (s₁.setTop (mkF m 25 #[.val (.ref a1), .val (.int p2), .val (.int p3), .val (.int p2)] [(.int p3)])) _
        refine XS.iloadN X0.here hx rfl (hb hby d2_25) rfl ?_
        show Steps p.tables e below (s₁.setTop (mkF m 26 #[.val (.ref a1), .val (.int p2), .val (.int p3), .val (.int p2)] [(.int p2), (.int p3)])) _
        refine XS.isub X0.here hx rfl (hb hby d2_26) rfl ?_
        show Steps p.tables e below (s₁.setTop (mkF m 27 #[.val (.ref a1), .val (.int p2), .val (.int p3), .val (.int p2)] [(.int (p3 - p2))])) _
        refine XS.bipush X0.here hx rfl (hb hby d2_27) ?_
        show Steps p.tables e below (s₁.setTop (mkF m 29 #[.val (.ref a1), .val (.int p2), .val (.int p3), .val (.int p2)] [(.int (18 : Int32)), (.int (p3 - p2))])) _
        by_cases hc29_11 : (18 : Int32) < (p3 - p2)
        · refine XS.icmpNo X0.here hx rfl (hb hby d2_29) rfl (tlt hc29_11).2.2.2 ?_
          show Steps p.tables e below (s₁.setTop (mkF m 32 #[.val (.ref a1), .val (.int p2), .val (.int p3), .val (.int p2)] [])) _
          refine XS.iconst X0.here hx rfl (hb hby d2_32) ?_
          show Steps p.tables e below (s₁.setTop (mkF m 33 #[.val (.ref a1), .val (.int p2), .val (.int p3), .val (.int p2)] [(.int (0 : Int32))])) _
          rw [if_neg hc5_2, if_neg hc21_10, if_pos hc29_11] at hr
          exact retN X0 hx (t := .boolean) Bd.returns (by simp) (hb hby d2_33) hr
        · refine XS.icmpYes X0.here hx rfl (pc0 := 29) (pc' := 34) rfl (hb hby d2_29) rfl (flt hc29_11).2.2.2 (by decide) (by decide) ?_
          show Steps p.tables e below (s₁.setTop (mkF m 34 #[.val (.ref a1), .val (.int p2), .val (.int p3), .val (.int p2)] [])) _
          refine XS.aloadN X0.here hx rfl (hb hby d2_34) rfl rfl ?_
          show Steps p.tables e below (s₁.setTop (mkF m 35 #[.val (.ref a1), .val (.int p2), .val (.int p3), .val (.int p2)] [(.ref a1)])) _
          refine XS.iloadN X0.here hx rfl (hb hby d2_35) rfl ?_
          show Steps p.tables e below (s₁.setTop (mkF m 36 #[.val (.ref a1), .val (.int p2), .val (.int p3), .val (.int p2)] [(.int p2), (.ref a1)])) _
          obtain ⟨cl12, Ar12, -, aS12, -, aH12, -⟩ := id Va
          have hin12 : ¬ (p2 < 0 ∨ cl12.slots.size ≤ (p2).toNatClampNeg) := inb_of aS12 h2
          refine X0.baloadBytes hx (j := p2) (v := (.int (f p2))) (by rw [e0]; exact Ar12.1) (State.isArrayOf_alike hZ.alike Ar12.2.1) Ar12.2.2 hin12 (Has.at aH12 hin12 (hf p2 h2)) (g := (mkF m 36 #[.val (.ref a1), .val (.int p2), .val (.int p3), .val (.int p2)] [(.int p2), (.ref a1)])) rfl rfl (hb hby d2_36) _ ?_
          show Steps p.tables e below (s₁.setTop (mkF m 37 #[.val (.ref a1), .val (.int p2), .val (.int p3), .val (.int p2)] [(.int (f p2))])) _
          refine XS.bipush X0.here hx rfl (hb hby d2_37) ?_
          show Steps p.tables e below (s₁.setTop (mkF m 39 #[.val (.ref a1), .val (.int p2), .val (.int p3), .val (.int p2)] [(.int (48 : Int32)), (.int (f p2))])) _
          by_cases hc39_13 : (f p2) = (48 : Int32)
          · refine XS.icmpNo X0.here hx rfl (hb hby d2_39) rfl (teq hc39_13).2 ?_
            show Steps p.tables e below (s₁.setTop (mkF m 42 #[.val (.ref a1), .val (.int p2), .val (.int p3), .val (.int p2)] [])) _
            refine XS.iloadN X0.here hx rfl (hb hby d2_42) rfl ?_
            show Steps p.tables e below (s₁.setTop (mkF m 43 #[.val (.ref a1), .val (.int p2), .val (.int p3), .val (.int p2)] [(.int p3)])) _
            refine XS.iloadN X0.here hx rfl (hb hby d2_43) rfl ?_
            show Steps p.tables e below (s₁.setTop (mkF m 44 #[.val (.ref a1), .val (.int p2), .val (.int p3), .val (.int p2)] [(.int p2), (.int p3)])) _
            refine XS.isub X0.here hx rfl (hb hby d2_44) rfl ?_
            show Steps p.tables e below (s₁.setTop (mkF m 45 #[.val (.ref a1), .val (.int p2), .val (.int p3), .val (.int p2)] [(.int (p3 - p2))])) _
            refine XS.iconst X0.here hx rfl (hb hby d2_45) ?_
            show Steps p.tables e below (s₁.setTop (mkF m 46 #[.val (.ref a1), .val (.int p2), .val (.int p3), .val (.int p2)] [(.int (1 : Int32)), (.int (p3 - p2))])) _
            by_cases hc46_14 : (p3 - p2) = (1 : Int32)
            · refine XS.icmpNo X0.here hx rfl (hb hby d2_46) rfl (teq hc46_14).2 ?_
              show Steps p.tables e below (s₁.setTop (mkF m 49 #[.val (.ref a1), .val (.int p2), .val (.int p3), .val (.int p2)] [])) _
              refine XS.iconst X0.here hx rfl (hb hby d2_49) ?_
              show Steps p.tables e below (s₁.setTop (mkF m 50 #[.val (.ref a1), .val (.int p2), .val (.int p3), .val (.int p2)] [(.int (1 : Int32))])) _
              refine XS.goto X0.here hx rfl (pc0 := 50) (pc' := 54) rfl (hb hby d2_50) (by decide) (by decide) ?_
              show Steps p.tables e below (s₁.setTop (mkF m 54 #[.val (.ref a1), .val (.int p2), .val (.int p3), .val (.int p2)] [(.int (1 : Int32))])) _
              rw [if_neg hc5_2, if_neg hc21_10, if_neg hc29_11, if_pos hc39_13, if_pos hc46_14] at hr
              exact retN X0 hx (t := .boolean) Bd.returns (by simp) (hb hby d2_54) hr
            · refine XS.icmpYes X0.here hx rfl (pc0 := 46) (pc' := 53) rfl (hb hby d2_46) rfl (feq hc46_14).2 (by decide) (by decide) ?_
              show Steps p.tables e below (s₁.setTop (mkF m 53 #[.val (.ref a1), .val (.int p2), .val (.int p3), .val (.int p2)] [])) _
              refine XS.iconst X0.here hx rfl (hb hby d2_53) ?_
              show Steps p.tables e below (s₁.setTop (mkF m 54 #[.val (.ref a1), .val (.int p2), .val (.int p3), .val (.int p2)] [(.int (0 : Int32))])) _
              rw [if_neg hc5_2, if_neg hc21_10, if_neg hc29_11, if_pos hc39_13, if_neg hc46_14] at hr
              exact retN X0 hx (t := .boolean) Bd.returns (by simp) (hb hby d2_54) hr
          · refine XS.icmpYes X0.here hx rfl (pc0 := 39) (pc' := 49) rfl (hb hby d2_39) rfl (feq hc39_13).2 (by decide) (by decide) ?_
            show Steps p.tables e below (s₁.setTop (mkF m 49 #[.val (.ref a1), .val (.int p2), .val (.int p3), .val (.int p2)] [])) _
            refine XS.iconst X0.here hx rfl (hb hby d2_49) ?_
            show Steps p.tables e below (s₁.setTop (mkF m 50 #[.val (.ref a1), .val (.int p2), .val (.int p3), .val (.int p2)] [(.int (1 : Int32))])) _
            refine XS.goto X0.here hx rfl (pc0 := 50) (pc' := 54) rfl (hb hby d2_50) (by decide) (by decide) ?_
            show Steps p.tables e below (s₁.setTop (mkF m 54 #[.val (.ref a1), .val (.int p2), .val (.int p3), .val (.int p2)] [(.int (1 : Int32))])) _
            rw [if_neg hc5_2, if_neg hc21_10, if_neg hc29_11, if_neg hc39_13] at hr
            exact retN X0 hx (t := .boolean) Bd.returns (by simp) (hb hby d2_54) hr
  · show Q2 Z a1 p2 p3 f ka vs h0 n0 _ s₁.heap _
    rw [e0]
    exact ⟨congrArg (fun z => some (Value.int z)) (show F2 p2 p3 f = (if (f p2) = (45 : Int32) then (if (f p2) = (43 : Int32) then (0 : Int32) else (if (18 : Int32) < (p3 - (p2 + (1 : Int32))) then (0 : Int32) else (if (f (p2 + (1 : Int32))) = (48 : Int32) then (if (p3 - p2) = (1 : Int32) then (1 : Int32) else (0 : Int32)) else (1 : Int32)))) else (if (f p2) = (43 : Int32) then (0 : Int32) else (if (18 : Int32) < (p3 - p2) then (0 : Int32) else (if (f p2) = (48 : Int32) then (if (p3 - p2) = (1 : Int32) then (1 : Int32) else (0 : Int32)) else (1 : Int32))))) by rw [F2]).symm, N0, rfl⟩
theorem pd_2 : parseMethodDescriptor "(IIIIIJJ)B" = some ⟨[.int, .int, .int, .int, .int, .long, .long], some .byte⟩ := by decide +kernel
theorem pd_3 : parseMethodDescriptor "([BII)Z" = some ⟨[(.array .byte), .int, .int], some .boolean⟩ := by decide +kernel
theorem ef_0 (m : MethodId) (x0 : Int32) (x1 : Int32) (x2 : Int32) (x3 : Int64) (x4 : Int64) : entryFrame m #[(.int x0), (.int x1), (.int x2), (.long x3), (.long x4)] maxLocals = mkF m 0 #[.val (.int x0), .val (.int x1), .val (.int x2), .val (.long x3), .second, .val (.long x4), .second, .unset, .unset, .unset, .unset, .unset, .unset, .unset, .unset, .unset] [] := by first | (simp [entryFrame, mkF, argsToLocals, Value.category, maxLocals]; done) | rfl
def Voff (p1 : Int32) : Int32 := (p1 &&& (3 : Int32))
def Vs (p1 : Int32) : Int32 := ((((p1.toUInt32 >>> ((2 : Int32) &&& 31).toUInt32).toInt32) &&& (2147483647 : Int32)) - ((((p1.toUInt32 >>> ((2 : Int32) &&& 31).toUInt32).toInt32) &&& (2147483647 : Int32)) / (3 : Int32)) * (3 : Int32))
def Vn (p2 : Int32) : Int32 := ((1 : Int32) + ((p2 &&& (2147483647 : Int32)) - ((p2 &&& (2147483647 : Int32)) / (21 : Int32)) * (21 : Int32)))
def Vd (p3 : Int32) : Int32 := (if (9 : Int32) < (p3 &&& (15 : Int32)) then (0 : Int32) else (p3 &&& (15 : Int32)))
def Vone (p1 : Int32) : Int32 := (if (0 : Int32) < (Vs p1) then (1 : Int32) else (0 : Int32))
def Vto (p1 : Int32) (p2 : Int32) : Int32 := (((Voff p1) + (Vone p1)) + (Vn p2))
def Vplain (p1 : Int32) (p2 : Int32) (p3 : Int32) : Int32 := (if (Vs p1) = (1 : Int32) then (0 : Int32) else (if (Vd p3) = (0 : Int32) then (if (Vn p2) = (1 : Int32) then (if (Vs p1) = (0 : Int32) then (1 : Int32) else (0 : Int32)) else (0 : Int32)) else (1 : Int32)))
def F0 (p1 : Int32) (p2 : Int32) (p3 : Int32) (q4 : Int64) (q5 : Int64) : Int32 := (if (18 : Int32) < (Vn p2) then (if (Vn p2) = (19 : Int32) then (if (F2 (Voff p1) (Vto p1 p2) (fun j => nar .byte (F1 j (Voff p1) (Vs p1) (Vn p2) (Vd p3) q4 q5))) = (0 : Int32) then (1 : Int32) else (if (Vplain p1 p2 p3) = (0 : Int32) then (0 : Int32) else (1 : Int32))) else (if (F2 (Voff p1) (Vto p1 p2) (fun j => nar .byte (F1 j (Voff p1) (Vs p1) (Vn p2) (Vd p3) q4 q5))) = (0 : Int32) then (1 : Int32) else (0 : Int32))) else (if (F2 (Voff p1) (Vto p1 p2) (fun j => nar .byte (F1 j (Voff p1) (Vs p1) (Vn p2) (Vd p3) q4 q5))) = (Vplain p1 p2 p3) then (1 : Int32) else (0 : Int32)))
theorem own_off (p1 : Int32) : 0 ≤ (Voff p1).toInt ∧ (Voff p1).toInt < 4 := by
  have a := c_mask p1 3 2 (by decide) (by decide)
  have e : ((2 ^ 2 : Nat) : Int) = 4 := rfl
  rw [e] at a
  show 0 ≤ (p1 &&& (3 : Int32)).toInt ∧ (p1 &&& (3 : Int32)).toInt < 4
  omega
theorem own_b2 (p1 : Int32) : ¬ (Voff p1) < (0 : Int32) ∧ (Voff p1) < (27 : Int32) := by
  have a := own_off p1
  have e0 : (0 : Int32).toInt = 0 := rfl
  have e27 : (27 : Int32).toInt = 27 := rfl
  rw [Int32.lt_iff_toInt_lt, Int32.lt_iff_toInt_lt, e0, e27]
  omega
theorem own_b3 (p1 : Int32) : ¬ ((Voff p1) + (1 : Int32)) < (0 : Int32) ∧ ((Voff p1) + (1 : Int32)) < (27 : Int32) := by
  have a := own_off p1
  have b := c_iadd (Voff p1) 1
  have r := rng32 (Voff p1 + 1)
  have e0 : (0 : Int32).toInt = 0 := rfl
  have e1 : (1 : Int32).toInt = 1 := rfl
  have e27 : (27 : Int32).toInt = 27 := rfl
  rw [e1] at b
  rw [Int32.lt_iff_toInt_lt, Int32.lt_iff_toInt_lt, e0, e27]
  omega
theorem own_idx (j : Int32) (h : ¬ j < (0 : Int32) ∧ j < (27 : Int32)) : ∃ n : Fin 27, j = Int32.ofNat n.val := by
  obtain ⟨h1, h2⟩ := h
  rw [Int32.lt_iff_toInt_lt] at h1 h2
  have e0 : (0 : Int32).toInt = 0 := rfl
  have e27 : (27 : Int32).toInt = 27 := rfl
  rw [e0] at h1; rw [e27] at h2
  refine ⟨⟨j.toInt.toNat, by omega⟩, ?_⟩
  apply Int32.toInt_inj.mp
  show _ = (Int32.ofNat j.toInt.toNat).toInt
  rw [Int32.toInt_ofNat_of_lt (by omega)]
  omega
theorem own_list (p1 p2 p3 : Int32) (q4 q5 : Int64) : ∀ j : Int32, (¬ j < (0 : Int32) ∧ j < (27 : Int32)) → ([(.int (nar .byte (F1 (0 : Int32) (Voff p1) (Vs p1) (Vn p2) (Vd p3) q4 q5))), (.int (nar .byte (F1 (1 : Int32) (Voff p1) (Vs p1) (Vn p2) (Vd p3) q4 q5))), (.int (nar .byte (F1 (2 : Int32) (Voff p1) (Vs p1) (Vn p2) (Vd p3) q4 q5))), (.int (nar .byte (F1 (3 : Int32) (Voff p1) (Vs p1) (Vn p2) (Vd p3) q4 q5))), (.int (nar .byte (F1 (4 : Int32) (Voff p1) (Vs p1) (Vn p2) (Vd p3) q4 q5))), (.int (nar .byte (F1 (5 : Int32) (Voff p1) (Vs p1) (Vn p2) (Vd p3) q4 q5))), (.int (nar .byte (F1 (6 : Int32) (Voff p1) (Vs p1) (Vn p2) (Vd p3) q4 q5))), (.int (nar .byte (F1 (7 : Int32) (Voff p1) (Vs p1) (Vn p2) (Vd p3) q4 q5))), (.int (nar .byte (F1 (8 : Int32) (Voff p1) (Vs p1) (Vn p2) (Vd p3) q4 q5))), (.int (nar .byte (F1 (9 : Int32) (Voff p1) (Vs p1) (Vn p2) (Vd p3) q4 q5))), (.int (nar .byte (F1 (10 : Int32) (Voff p1) (Vs p1) (Vn p2) (Vd p3) q4 q5))), (.int (nar .byte (F1 (11 : Int32) (Voff p1) (Vs p1) (Vn p2) (Vd p3) q4 q5))), (.int (nar .byte (F1 (12 : Int32) (Voff p1) (Vs p1) (Vn p2) (Vd p3) q4 q5))), (.int (nar .byte (F1 (13 : Int32) (Voff p1) (Vs p1) (Vn p2) (Vd p3) q4 q5))), (.int (nar .byte (F1 (14 : Int32) (Voff p1) (Vs p1) (Vn p2) (Vd p3) q4 q5))), (.int (nar .byte (F1 (15 : Int32) (Voff p1) (Vs p1) (Vn p2) (Vd p3) q4 q5))), (.int (nar .byte (F1 (16 : Int32) (Voff p1) (Vs p1) (Vn p2) (Vd p3) q4 q5))), (.int (nar .byte (F1 (17 : Int32) (Voff p1) (Vs p1) (Vn p2) (Vd p3) q4 q5))), (.int (nar .byte (F1 (18 : Int32) (Voff p1) (Vs p1) (Vn p2) (Vd p3) q4 q5))), (.int (nar .byte (F1 (19 : Int32) (Voff p1) (Vs p1) (Vn p2) (Vd p3) q4 q5))), (.int (nar .byte (F1 (20 : Int32) (Voff p1) (Vs p1) (Vn p2) (Vd p3) q4 q5))), (.int (nar .byte (F1 (21 : Int32) (Voff p1) (Vs p1) (Vn p2) (Vd p3) q4 q5))), (.int (nar .byte (F1 (22 : Int32) (Voff p1) (Vs p1) (Vn p2) (Vd p3) q4 q5))), (.int (nar .byte (F1 (23 : Int32) (Voff p1) (Vs p1) (Vn p2) (Vd p3) q4 q5))), (.int (nar .byte (F1 (24 : Int32) (Voff p1) (Vs p1) (Vn p2) (Vd p3) q4 q5))), (.int (nar .byte (F1 (25 : Int32) (Voff p1) (Vs p1) (Vn p2) (Vd p3) q4 q5))), (.int (nar .byte (F1 (26 : Int32) (Voff p1) (Vs p1) (Vn p2) (Vd p3) q4 q5)))] : List Value).getD j.toNatClampNeg (.int (0 : Int32)) = .int ((fun j => nar .byte (F1 j (Voff p1) (Vs p1) (Vn p2) (Vd p3) q4 q5)) j) := by
  intro j h
  obtain ⟨⟨k, hk⟩, rfl⟩ := own_idx j h
  clear h
  match k, hk with
  | 0, _ => rfl
  | 1, _ => rfl
  | 2, _ => rfl
  | 3, _ => rfl
  | 4, _ => rfl
  | 5, _ => rfl
  | 6, _ => rfl
  | 7, _ => rfl
  | 8, _ => rfl
  | 9, _ => rfl
  | 10, _ => rfl
  | 11, _ => rfl
  | 12, _ => rfl
  | 13, _ => rfl
  | 14, _ => rfl
  | 15, _ => rfl
  | 16, _ => rfl
  | 17, _ => rfl
  | 18, _ => rfl
  | 19, _ => rfl
  | 20, _ => rfl
  | 21, _ => rfl
  | 22, _ => rfl
  | 23, _ => rfl
  | 24, _ => rfl
  | 25, _ => rfl
  | 26, _ => rfl
  | k + 27, hk => exact absurd hk (by omega)
theorem own_off4 (p1 : Int32) : ∃ k : Fin 4, Voff p1 = Int32.ofNat k.val := by
  have a := own_off p1
  refine ⟨⟨(Voff p1).toInt.toNat, by omega⟩, ?_⟩
  apply Int32.toInt_inj.mp
  show _ = (Int32.ofNat (Voff p1).toInt.toNat).toInt
  rw [Int32.toInt_ofNat_of_lt (by omega)]
  omega
theorem own_s3 (p1 : Int32) : Vs p1 = 0 ∨ Vs p1 = 1 ∨ Vs p1 = 2 := by
  have q : (Vs p1).toInt = 0 ∨ (Vs p1).toInt = 1 ∨ (Vs p1).toInt = 2 := by
    rw [Vs]
    generalize ((p1.toUInt32 >>> ((2 : Int32) &&& 31).toUInt32).toInt32) = y
    have a := c_mask y 2147483647 31 (by decide) (by decide)
    have e31 : ((2 ^ 31 : Nat) : Int) = 2147483648 := rfl
    rw [e31] at a
    have d := c_idiv (y &&& 2147483647) 3 3 rfl (by decide)
    have u := c_imul ((y &&& 2147483647) / 3) 3
    have v := c_isub (y &&& 2147483647) ((y &&& 2147483647) / 3 * 3)
    have e3 : (3 : Int32).toInt = 3 := rfl
    rw [e3] at u
    have r1 := rng32 ((y &&& 2147483647) / 3 * 3)
    have r2 := rng32 ((y &&& 2147483647) - (y &&& 2147483647) / 3 * 3)
    omega
  rcases q with q | q | q
  · exact Or.inl (Int32.toInt_inj.mp q)
  · exact Or.inr (Or.inl (Int32.toInt_inj.mp q))
  · exact Or.inr (Or.inr (Int32.toInt_inj.mp q))
theorem own_n21 (p2 : Int32) : 1 ≤ (Vn p2).toInt ∧ (Vn p2).toInt ≤ 21 := by
  rw [Vn]
  have a := c_mask p2 2147483647 31 (by decide) (by decide)
  have e31 : ((2 ^ 31 : Nat) : Int) = 2147483648 := rfl
  rw [e31] at a
  have d := c_idiv (p2 &&& 2147483647) 21 21 rfl (by decide)
  have u := c_imul ((p2 &&& 2147483647) / 21) 21
  have v := c_isub (p2 &&& 2147483647) ((p2 &&& 2147483647) / 21 * 21)
  have w := c_iadd 1 ((p2 &&& 2147483647) - (p2 &&& 2147483647) / 21 * 21)
  have e21 : (21 : Int32).toInt = 21 := rfl
  have e1 : (1 : Int32).toInt = 1 := rfl
  rw [e21] at u
  rw [e1] at w
  have r1 := rng32 ((p2 &&& 2147483647) / 21 * 21)
  have r2 := rng32 ((p2 &&& 2147483647) - (p2 &&& 2147483647) / 21 * 21)
  have r3 := rng32 (1 + ((p2 &&& 2147483647) - (p2 &&& 2147483647) / 21 * 21))
  omega
theorem own_d10 (p3 : Int32) : ∃ k : Fin 10, Vd p3 = Int32.ofNat k.val := by
  have h : 0 ≤ (Vd p3).toInt ∧ (Vd p3).toInt < 10 := by
    have a := c_mask p3 15 4 (by decide) (by decide)
    have e4 : ((2 ^ 4 : Nat) : Int) = 16 := rfl
    rw [e4] at a
    have e9 : (9 : Int32).toInt = 9 := rfl
    rw [Vd]
    by_cases q : (9 : Int32) < (p3 &&& (15 : Int32))
    · rw [if_pos q]; decide
    · rw [if_neg q]
      rw [Int32.lt_iff_toInt_lt, e9] at q
      omega
  refine ⟨⟨(Vd p3).toInt.toNat, by omega⟩, ?_⟩
  apply Int32.toInt_inj.mp
  show _ = (Int32.ofNat (Vd p3).toInt.toNat).toInt
  rw [Int32.toInt_ofNat_of_lt (by omega)]
  omega
theorem own_dig : ∀ k : Fin 10, nar .byte (nar .byte (((48 : Int32) + Int32.ofNat k.val).toInt8.toInt32)) = (48 : Int32) + Int32.ofNat k.val := by decide +kernel
theorem own_dig45 : ∀ k : Fin 10, ¬ ((48 : Int32) + Int32.ofNat k.val = (45 : Int32)) ∧ ¬ ((48 : Int32) + Int32.ofNat k.val = (43 : Int32)) ∧ ((48 : Int32) + Int32.ofNat k.val = (48 : Int32) ↔ Int32.ofNat k.val = (0 : Int32)) := by decide +kernel
theorem own_offs : ∀ k : Fin 4, ¬ (Int32.ofNat k.val < Int32.ofNat k.val) ∧ ¬ (Int32.ofNat k.val + (1 : Int32) < Int32.ofNat k.val) ∧ Int32.ofNat k.val - Int32.ofNat k.val = (0 : Int32) ∧ (Int32.ofNat k.val + (1 : Int32)) - Int32.ofNat k.val = (1 : Int32) ∧ 0 ≤ (Int32.ofNat k.val).toInt ∧ (Int32.ofNat k.val).toInt < 4 := by decide +kernel
theorem own_fin (R P n : Int32) (h1 : (18 : Int32) < n → R = 0) (h2 : ¬ (18 : Int32) < n → R = P) : (if (18 : Int32) < n then (if n = (19 : Int32) then (if R = (0 : Int32) then (1 : Int32) else (if P = (0 : Int32) then (0 : Int32) else (1 : Int32))) else (if R = (0 : Int32) then (1 : Int32) else (0 : Int32))) else (if R = P then (1 : Int32) else (0 : Int32))) = 1 := by
  by_cases h : (18 : Int32) < n
  · rw [if_pos h, if_pos (h1 h), if_pos (h1 h)]
    by_cases q : n = (19 : Int32)
    · rw [if_pos q]
    · rw [if_neg q]
  · rw [if_neg h, if_pos (h2 h)]
theorem own_F2a (off to : Int32) (f : Int32 → Int32) (h45 : ¬ f off = (45 : Int32)) (h43 : ¬ f off = (43 : Int32)) : F2 off to f = (if (18 : Int32) < (to - off) then (0 : Int32) else (if (f off) = (48 : Int32) then (if (to - off) = (1 : Int32) then (1 : Int32) else (0 : Int32)) else (1 : Int32))) := by
  rw [F2, if_neg h45, if_neg h43]
theorem own_F2b (off to : Int32) (f : Int32 → Int32) (h45 : f off = (45 : Int32)) : F2 off to f = (if (18 : Int32) < (to - (off + (1 : Int32))) then (0 : Int32) else (if (f (off + (1 : Int32))) = (48 : Int32) then (if (to - off) = (1 : Int32) then (1 : Int32) else (0 : Int32)) else (1 : Int32))) := by
  rw [F2, if_pos h45, if_neg (by rw [h45]; decide)]
theorem own_F2c (off to : Int32) (f : Int32 → Int32) (h43 : f off = (43 : Int32)) : F2 off to f = 0 := by
  rw [F2, if_neg (by rw [h43]; decide), if_pos h43]
theorem own_key (off s n d : Int32) (q4 q5 : Int64) (hs : s = 0 ∨ s = 1 ∨ s = 2) (hn : 1 ≤ n.toInt ∧ n.toInt ≤ 21) (o1 : ¬ (off < off)) (o2 : ¬ (off + (1 : Int32) < off)) (o3 : off - off = (0 : Int32)) (o4 : (off + (1 : Int32)) - off = (1 : Int32)) (o5 : 0 ≤ off.toInt) (o6 : off.toInt < 4)
    (g1 : ¬ ((48 : Int32) + d = (45 : Int32))) (g2 : ¬ ((48 : Int32) + d = (43 : Int32))) (g3 : (48 : Int32) + d = (48 : Int32) ↔ d = (0 : Int32)) (dg : nar .byte (nar .byte (((48 : Int32) + d).toInt8.toInt32)) = (48 : Int32) + d) (P : Int32)
    (hP : P = (if s = (1 : Int32) then (0 : Int32) else (if d = (0 : Int32) then (if n = (1 : Int32) then (if s = (0 : Int32) then (1 : Int32) else (0 : Int32)) else (0 : Int32)) else (1 : Int32)))) (R : Int32)
    (hR : R = F2 off ((off + (if (0 : Int32) < s then (1 : Int32) else (0 : Int32))) + n) (fun j => nar .byte (F1 j off s n d q4 q5))) : ((18 : Int32) < n → R = 0) ∧ (¬ (18 : Int32) < n → R = P) := by
  have e0 : (0 : Int32).toInt = 0 := rfl
  have e1 : (1 : Int32).toInt = 1 := rfl
  have hn0 : (0 : Int32) < n := by rw [Int32.lt_iff_toInt_lt, e0]; omega
  rcases hs with rfl | rfl | rfl
  · have f0 : nar .byte (F1 off off 0 n d q4 q5) = (48 : Int32) + d := by
      rw [F1, if_neg o1, if_neg (by decide), o3, if_pos hn0, if_pos rfl]; exact dg
    have t1 : ((off + (0 : Int32)) + n) - off = n := by
      apply Int32.toInt_inj.mp
      have a := c_iadd off 0
      have b := c_iadd (off + 0) n
      have c := c_isub ((off + 0) + n) off
      have r1 := rng32 (off + 0)
      have r2 := rng32 ((off + 0) + n)
      have r3 := rng32 (((off + 0) + n) - off)
      rw [e0] at a
      omega
    rw [if_neg (by decide), own_F2a off _ _ (by show ¬ nar .byte (F1 off off 0 n d q4 q5) = _; rw [f0]; exact g1) (by show ¬ nar .byte (F1 off off 0 n d q4 q5) = _; rw [f0]; exact g2), t1] at hR
    have hR2 : R = (if (18 : Int32) < n then (0 : Int32) else (if nar .byte (F1 off off 0 n d q4 q5) = (48 : Int32) then (if n = (1 : Int32) then (1 : Int32) else (0 : Int32)) else (1 : Int32))) := hR
    rw [f0] at hR2
    refine ⟨fun h => by rw [hR2, if_pos h], fun h => ?_⟩
    rw [hR2, if_neg h, hP, if_neg (by decide : ¬ ((0 : Int32) = (1 : Int32)))]
    by_cases hd : d = (0 : Int32)
    · rw [if_pos (g3.mpr hd), if_pos hd]
      by_cases h1 : n = (1 : Int32)
      · rw [if_pos h1, if_pos h1, if_pos rfl]
      · rw [if_neg h1, if_neg h1]
    · rw [if_neg (fun q => hd (g3.mp q)), if_neg hd]
  · have f0 : nar .byte (F1 off off 1 n d q4 q5) = (43 : Int32) := by
      rw [F1, if_neg o1, if_pos (by decide), o3, if_pos rfl, if_pos rfl]; rfl
    have hR2 : R = 0 := by rw [hR]; exact own_F2c off _ _ f0
    refine ⟨fun _ => hR2, fun _ => ?_⟩
    rw [hR2, hP, if_pos rfl]
  · have f0 : nar .byte (F1 off off 2 n d q4 q5) = (45 : Int32) := by
      rw [F1, if_neg o1, if_pos (by decide), o3, if_pos rfl, if_neg (by decide)]; rfl
    have f1 : nar .byte (F1 (off + (1 : Int32)) off 2 n d q4 q5) = (48 : Int32) + d := by
      rw [F1, if_neg o2, if_pos (by decide), o4, if_neg (by decide), (by decide : (1 : Int32) - 1 = 0), if_pos hn0, if_pos rfl]; exact dg
    have a := c_iadd off 1
    have b := c_iadd (off + 1) n
    have c := c_isub ((off + 1) + n) off
    have c2 := c_isub ((off + 1) + n) (off + 1)
    have r1 := rng32 (off + 1)
    have r2 := rng32 ((off + 1) + n)
    have r3 := rng32 (((off + 1) + n) - off)
    have r4 := rng32 (((off + 1) + n) - (off + 1))
    rw [e1] at a
    have t1 : ((off + (1 : Int32)) + n) - (off + (1 : Int32)) = n := by
      apply Int32.toInt_inj.mp
      omega
    have t2 : ¬ (((off + (1 : Int32)) + n) - off = (1 : Int32)) := fun q => by
      have q' := congrArg Int32.toInt q
      rw [e1] at q'
      omega
    rw [if_pos (by decide), own_F2b off _ _ f0, t1, if_neg t2] at hR
    have hR2 : R = (if (18 : Int32) < n then (0 : Int32) else (if nar .byte (F1 (off + (1 : Int32)) off 2 n d q4 q5) = (48 : Int32) then (0 : Int32) else (1 : Int32))) := hR
    rw [f1] at hR2
    refine ⟨fun h => by rw [hR2, if_pos h], fun h => ?_⟩
    rw [hR2, if_neg h, hP, if_neg (by decide : ¬ ((2 : Int32) = (1 : Int32)))]
    by_cases hd : d = (0 : Int32)
    · rw [if_pos (g3.mpr hd), if_pos hd]
      by_cases h1 : n = (1 : Int32)
      · rw [if_pos h1, if_neg (by decide : ¬ ((2 : Int32) = (0 : Int32)))]
      · rw [if_neg h1]
    · rw [if_neg (fun q => hd (g3.mp q)), if_neg hd]
theorem own_law (p1 p2 p3 : Int32) (q4 q5 : Int64) : F0 p1 p2 p3 q4 q5 = 1 := by
  obtain ⟨k, hk⟩ := own_off4 p1
  obtain ⟨j, hj⟩ := own_d10 p3
  obtain ⟨o1, o2, o3, o4, o5, o6⟩ := own_offs k
  obtain ⟨g1, g2, g3⟩ := own_dig45 j
  have dg := own_dig j
  rw [← hk] at o1 o2 o3 o4 o5 o6
  rw [← hj] at g1 g2 g3 dg
  have key := own_key (Voff p1) (Vs p1) (Vn p2) (Vd p3) q4 q5 (own_s3 p1) (own_n21 p2) o1 o2 o3 o4 o5 o6 g1 g2 g3 dg (Vplain p1 p2 p3) rfl (F2 (Voff p1) (Vto p1 p2) (fun j => nar .byte (F1 j (Voff p1) (Vs p1) (Vn p2) (Vd p3) q4 q5))) rfl
  exact own_fin _ _ _ key.1 key.2
def Q0 (Z : State) (p1 : Int32) (p2 : Int32) (p3 : Int32) (q4 : Int64) (q5 : Int64) (h0 : Heap) (n0 : Nat) (v : Option Value) (h : Heap) (L : List Loc) : Prop := v = some (.int 1) ∧ Fr n0 L
set_option maxRecDepth 65536 in
set_option maxHeartbeats 40000000 in
theorem rm0 (l : Launch) (Z : State) (a0 : Array Value) (hw : ∀ d ∈ tables_1, d.before a0 Z = true) (ws : List Jvm.Cond) (p1 : Int32) (p2 : Int32) (p3 : Int32) (q4 : Int64) (q5 : Int64) (h0 : Heap) (n0 : Nat) (Z0 : n0 ≤ h0.size) :
    MetFree l x (head1 (Jvm.Cond.code x code maxLocals ret :: ws) room_1) (fun a U => a = #[(.int p1), (.int p2), (.int p3), (.long q4), (.long q5)] ∧ Z.Warmed39 U.vm ∧ U.heap = h0) (fun _ _ _ _ _ => True) (fun _ U o U' => ∃ v L, o = .returned v ∧ Q0 Z p1 p2 p3 q4 q5 h0 n0 v U'.heap L ∧ FrameEnd U o U' L room_1.cells room_1.slots) := by
  refine MetFree.of_bodySF (plainFor_of_name pn_1) hisR ?_
  intro p e s m args below meth c s₁ Bd hml0 hP hK
  obtain ⟨rfl, hZ, hh⟩ := hP
  have hx := Bd.exec
  have hby := Bd.bytes
  have hml : c.maxLocals = 16 := hml0
  have hown : s.vm.findClass "com/example/levelwright/levelwright/BzwShapeIsPlainWholePinLaw" = some m.cls := findClass_of_methodNamed Bd.named
  have hnm := (name_of_methodNamed Bd.named Bd.method).1
  have X0 : Stand p l e room_1 s m #[(.int p1), (.int p2), (.int p3), (.long q4), (.long q5)] below meth c s₁ [] 0 0 := Stand.of_body Bd
  have e0 : s₁.heap = h0 := by rw [← hh, Bd.state]; rfl
  have N0 := Fr.nil n0
  have pre0 : ∀ t, Steps p.tables e below (s₁.setTop (mkF m 0 #[.val (.int p1), .val (.int p2), .val (.int p3), .val (.long q4), .second, .val (.long q5), .second, .unset, .unset, .unset, .unset, .unset, .unset, .unset, .unset, .unset] [])) t → Steps p.tables e below (s₁.setTop (entryFrame m #[(.int p1), (.int p2), (.int p3), (.long q4), (.long q5)] maxLocals)) t := fun t k => castTop (ef_0 m p1 p2 p3 q4 q5) k
  obtain ⟨T2, h2, k2, X2, e2, E2, A2, st2⟩ := newP X0 hx hZ (hw _ (List.mem_of_getElem? (i := 1) rfl)) e0 (g := (mkF m 44 #[.val (.int p1), .val (.int p2), .val (.int p3), .val (.long q4), .second, .val (.long q5), .second, .val (.int (Voff p1)), .val (.int (Vs p1)), .val (.int (Vn p2)), .val (.int (Vd p3)), .unset, .unset, .unset, .unset, .unset] [(.int (27 : Int32))])) rfl (hb hby at_44) rfl (by decide) (cap := 27) (by decide) (by decide) (by decide) (by decide)
  obtain ⟨b2, g2⟩ : ∃ z, z = h0.size := ⟨_, rfl⟩
  rw [← g2] at A2 st2
  have g_b2 : n0 ≤ b2 := Nat.le_trans Z0 (Nat.le_of_eq g2.symm)
  have V2_b2 : Arv Z h2 b2 k2 .byte (27 : Int32) [(.int (0 : Int32)), (.int (0 : Int32)), (.int (0 : Int32)), (.int (0 : Int32)), (.int (0 : Int32)), (.int (0 : Int32)), (.int (0 : Int32)), (.int (0 : Int32)), (.int (0 : Int32)), (.int (0 : Int32)), (.int (0 : Int32)), (.int (0 : Int32)), (.int (0 : Int32)), (.int (0 : Int32)), (.int (0 : Int32)), (.int (0 : Int32)), (.int (0 : Int32)), (.int (0 : Int32)), (.int (0 : Int32)), (.int (0 : Int32)), (.int (0 : Int32)), (.int (0 : Int32)), (.int (0 : Int32)), (.int (0 : Int32)), (.int (0 : Int32)), (.int (0 : Int32)), (.int (0 : Int32))] (.int (0 : Int32)) := (Arv.new A2 (by decide)).pad (pad_rep [] (.int (0 : Int32)) 27)
  have Z2 := Nat.le_trans Z0 E2.1
  obtain ⟨_, _, ⟨T3, L3, k3, n3⟩, -, X3, ⟨Lc3, hQ3, l3, y3, z3⟩, st3⟩ := Jvm.LawKit.callS X2 hx (y := (⟨"com/example/levelwright/levelwright/BzwShapeIsPlainWholePinLaw", "at", "(IIIIIJJ)B"⟩ : MethodName)) hown (mvT hZ (hw _ (List.mem_of_getElem? (i := 2) rfl))) (mvT hZ (hw _ (List.mem_of_getElem? (i := 3) rfl))) (mvT hZ (hw _ (List.mem_of_getElem? (i := 4) rfl))) (mvT hZ (hw _ (List.mem_of_getElem? (i := 5) rfl))) (by decide) (backOf (W := 3) (rm1 l Z a0 hw [] (0 : Int32) (Voff p1) (Vs p1) (Vn p2) (Vd p3) q4 q5 h2 n0 Z2 ) hZ (hw _ (List.mem_of_getElem? (i := 5) rfl)) (hw _ (List.mem_of_getElem? (i := 4) rfl)) (by decide) (by decide)) (g := (mkF m 60 #[.val (.int p1), .val (.int p2), .val (.int p3), .val (.long q4), .second, .val (.long q5), .second, .val (.int (Voff p1)), .val (.int (Vs p1)), .val (.int (Vn p2)), .val (.int (Vd p3)), .unset, .unset, .unset, .unset, .unset] [(.long q5), (.long q4), (.int (Vd p3)), (.int (Vn p2)), (.int (Vs p1)), (.int (Voff p1)), (.int (0 : Int32)), (.int (0 : Int32)), (.ref b2), (.ref b2)])) rfl (by rw [hml]; rfl) (argsL := [(.int (0 : Int32)), (.int (Voff p1)), (.int (Vs p1)), (.int (Vn p2)), (.int (Vd p3)), (.long q4), (.long q5)]) (rest := [(.int (0 : Int32)), (.ref b2), (.ref b2)]) (lenOf pd_2 rfl) rfl (by show 2 * 0 + _ ≤ _; exact Nat.le_of_eq rfl) (hb hby at_60) (fun _ _ => ⟨rfl, e2, (by decide : 1 + 0 ≤ _), (by decide : 27 + 0 ≤ _)⟩)
  dsimp only [Pt.U, Pt.locs, Pt.cells, Pt.slots] at X3 l3 y3 z3 st3 hQ3
  obtain rfl : k3 = 1 := y3
  obtain rfl : n3 = 27 := z3
  obtain ⟨rfl, N3q, e3⟩ := hQ3
  have N3 : Fr n0 L3 := by rw [l3]; exact Fr.app N0 N3q
  obtain ⟨cl4, Ar4, aq4, aS4, aN4, aH4, aG4⟩ := id V2_b2
  have hin4 : ¬ ((0 : Int32) < 0 ∨ cl4.slots.size ≤ ((0 : Int32)).toNatClampNeg) := inb_of aS4 ⟨by decide, by decide⟩
  obtain ⟨T4, h4, X4, e4, W4, st4⟩ := stB X3 hx hZ e3 Ar4 (j := (0 : Int32)) hin4 (g := (mkF m 63 #[.val (.int p1), .val (.int p2), .val (.int p3), .val (.long q4), .second, .val (.long q5), .second, .val (.int (Voff p1)), .val (.int (Vs p1)), .val (.int (Vn p2)), .val (.int (Vd p3)), .unset, .unset, .unset, .unset, .unset] [(.int (F1 (0 : Int32) (Voff p1) (Vs p1) (Vn p2) (Vd p3) q4 q5)), (.int (0 : Int32)), (.ref b2), (.ref b2)])) rfl rfl (hb hby at_63)
  have V4_b2 : Arv Z h4 b2 k2 .byte (27 : Int32) [(.int (nar .byte (F1 (0 : Int32) (Voff p1) (Vs p1) (Vn p2) (Vd p3) q4 q5))), (.int (0 : Int32)), (.int (0 : Int32)), (.int (0 : Int32)), (.int (0 : Int32)), (.int (0 : Int32)), (.int (0 : Int32)), (.int (0 : Int32)), (.int (0 : Int32)), (.int (0 : Int32)), (.int (0 : Int32)), (.int (0 : Int32)), (.int (0 : Int32)), (.int (0 : Int32)), (.int (0 : Int32)), (.int (0 : Int32)), (.int (0 : Int32)), (.int (0 : Int32)), (.int (0 : Int32)), (.int (0 : Int32)), (.int (0 : Int32)), (.int (0 : Int32)), (.int (0 : Int32)), (.int (0 : Int32)), (.int (0 : Int32)), (.int (0 : Int32)), (.int (0 : Int32))] (.int (0 : Int32)) := Arv.set Ar4 aq4 aS4 aN4 aH4 aG4 (fits_nar_byte _) W4 0 rfl (Nat.le_of_ble_eq_true rfl)
  have N4 := Fr.snoc X4 N3 g_b2
  have Z4 := Nat.le_trans Z2 (Keep.of_wr W4).1
  obtain ⟨_, _, ⟨T5, L5, k5, n5⟩, -, X5, ⟨Lc5, hQ5, l5, y5, z5⟩, st5⟩ := Jvm.LawKit.callS X4 hx (y := (⟨"com/example/levelwright/levelwright/BzwShapeIsPlainWholePinLaw", "at", "(IIIIIJJ)B"⟩ : MethodName)) hown (mvT hZ (hw _ (List.mem_of_getElem? (i := 2) rfl))) (mvT hZ (hw _ (List.mem_of_getElem? (i := 3) rfl))) (mvT hZ (hw _ (List.mem_of_getElem? (i := 4) rfl))) (mvT hZ (hw _ (List.mem_of_getElem? (i := 5) rfl))) (by decide) (backOf (W := 3) (rm1 l Z a0 hw [] (1 : Int32) (Voff p1) (Vs p1) (Vn p2) (Vd p3) q4 q5 h4 n0 Z4 ) hZ (hw _ (List.mem_of_getElem? (i := 5) rfl)) (hw _ (List.mem_of_getElem? (i := 4) rfl)) (by decide) (by decide)) (g := (mkF m 78 #[.val (.int p1), .val (.int p2), .val (.int p3), .val (.long q4), .second, .val (.long q5), .second, .val (.int (Voff p1)), .val (.int (Vs p1)), .val (.int (Vn p2)), .val (.int (Vd p3)), .unset, .unset, .unset, .unset, .unset] [(.long q5), (.long q4), (.int (Vd p3)), (.int (Vn p2)), (.int (Vs p1)), (.int (Voff p1)), (.int (1 : Int32)), (.int (1 : Int32)), (.ref b2), (.ref b2)])) rfl (by rw [hml]; rfl) (argsL := [(.int (1 : Int32)), (.int (Voff p1)), (.int (Vs p1)), (.int (Vn p2)), (.int (Vd p3)), (.long q4), (.long q5)]) (rest := [(.int (1 : Int32)), (.ref b2), (.ref b2)]) (lenOf pd_2 rfl) rfl (by show 2 * 0 + _ ≤ _; exact Nat.le_of_eq rfl) (hb hby at_78) (fun _ _ => ⟨rfl, e4, (by decide : 1 + 0 ≤ _), (by decide : 27 + 0 ≤ _)⟩)
  dsimp only [Pt.U, Pt.locs, Pt.cells, Pt.slots] at X5 l5 y5 z5 st5 hQ5
  obtain rfl : k5 = 1 := y5
  obtain rfl : n5 = 27 := z5
  obtain ⟨rfl, N5q, e5⟩ := hQ5
  have N5 : Fr n0 L5 := by rw [l5]; exact Fr.app N4 N5q
  obtain ⟨cl6, Ar6, aq6, aS6, aN6, aH6, aG6⟩ := id V4_b2
  have hin6 : ¬ ((1 : Int32) < 0 ∨ cl6.slots.size ≤ ((1 : Int32)).toNatClampNeg) := inb_of aS6 ⟨by decide, by decide⟩
  obtain ⟨T6, h6, X6, e6, W6, st6⟩ := stB X5 hx hZ e5 Ar6 (j := (1 : Int32)) hin6 (g := (mkF m 81 #[.val (.int p1), .val (.int p2), .val (.int p3), .val (.long q4), .second, .val (.long q5), .second, .val (.int (Voff p1)), .val (.int (Vs p1)), .val (.int (Vn p2)), .val (.int (Vd p3)), .unset, .unset, .unset, .unset, .unset] [(.int (F1 (1 : Int32) (Voff p1) (Vs p1) (Vn p2) (Vd p3) q4 q5)), (.int (1 : Int32)), (.ref b2), (.ref b2)])) rfl rfl (hb hby at_81)
  have V6_b2 : Arv Z h6 b2 k2 .byte (27 : Int32) [(.int (nar .byte (F1 (0 : Int32) (Voff p1) (Vs p1) (Vn p2) (Vd p3) q4 q5))), (.int (nar .byte (F1 (1 : Int32) (Voff p1) (Vs p1) (Vn p2) (Vd p3) q4 q5))), (.int (0 : Int32)), (.int (0 : Int32)), (.int (0 : Int32)), (.int (0 : Int32)), (.int (0 : Int32)), (.int (0 : Int32)), (.int (0 : Int32)), (.int (0 : Int32)), (.int (0 : Int32)), (.int (0 : Int32)), (.int (0 : Int32)), (.int (0 : Int32)), (.int (0 : Int32)), (.int (0 : Int32)), (.int (0 : Int32)), (.int (0 : Int32)), (.int (0 : Int32)), (.int (0 : Int32)), (.int (0 : Int32)), (.int (0 : Int32)), (.int (0 : Int32)), (.int (0 : Int32)), (.int (0 : Int32)), (.int (0 : Int32)), (.int (0 : Int32))] (.int (0 : Int32)) := Arv.set Ar6 aq6 aS6 aN6 aH6 aG6 (fits_nar_byte _) W6 1 rfl (Nat.le_of_ble_eq_true rfl)
  have N6 := Fr.snoc X6 N5 g_b2
  have Z6 := Nat.le_trans Z4 (Keep.of_wr W6).1
  obtain ⟨_, _, ⟨T7, L7, k7, n7⟩, -, X7, ⟨Lc7, hQ7, l7, y7, z7⟩, st7⟩ := Jvm.LawKit.callS X6 hx (y := (⟨"com/example/levelwright/levelwright/BzwShapeIsPlainWholePinLaw", "at", "(IIIIIJJ)B"⟩ : MethodName)) hown (mvT hZ (hw _ (List.mem_of_getElem? (i := 2) rfl))) (mvT hZ (hw _ (List.mem_of_getElem? (i := 3) rfl))) (mvT hZ (hw _ (List.mem_of_getElem? (i := 4) rfl))) (mvT hZ (hw _ (List.mem_of_getElem? (i := 5) rfl))) (by decide) (backOf (W := 3) (rm1 l Z a0 hw [] (2 : Int32) (Voff p1) (Vs p1) (Vn p2) (Vd p3) q4 q5 h6 n0 Z6 ) hZ (hw _ (List.mem_of_getElem? (i := 5) rfl)) (hw _ (List.mem_of_getElem? (i := 4) rfl)) (by decide) (by decide)) (g := (mkF m 96 #[.val (.int p1), .val (.int p2), .val (.int p3), .val (.long q4), .second, .val (.long q5), .second, .val (.int (Voff p1)), .val (.int (Vs p1)), .val (.int (Vn p2)), .val (.int (Vd p3)), .unset, .unset, .unset, .unset, .unset] [(.long q5), (.long q4), (.int (Vd p3)), (.int (Vn p2)), (.int (Vs p1)), (.int (Voff p1)), (.int (2 : Int32)), (.int (2 : Int32)), (.ref b2), (.ref b2)])) rfl (by rw [hml]; rfl) (argsL := [(.int (2 : Int32)), (.int (Voff p1)), (.int (Vs p1)), (.int (Vn p2)), (.int (Vd p3)), (.long q4), (.long q5)]) (rest := [(.int (2 : Int32)), (.ref b2), (.ref b2)]) (lenOf pd_2 rfl) rfl (by show 2 * 0 + _ ≤ _; exact Nat.le_of_eq rfl) (hb hby at_96) (fun _ _ => ⟨rfl, e6, (by decide : 1 + 0 ≤ _), (by decide : 27 + 0 ≤ _)⟩)
  dsimp only [Pt.U, Pt.locs, Pt.cells, Pt.slots] at X7 l7 y7 z7 st7 hQ7
  obtain rfl : k7 = 1 := y7
  obtain rfl : n7 = 27 := z7
  obtain ⟨rfl, N7q, e7⟩ := hQ7
  have N7 : Fr n0 L7 := by rw [l7]; exact Fr.app N6 N7q
  obtain ⟨cl8, Ar8, aq8, aS8, aN8, aH8, aG8⟩ := id V6_b2
  have hin8 : ¬ ((2 : Int32) < 0 ∨ cl8.slots.size ≤ ((2 : Int32)).toNatClampNeg) := inb_of aS8 ⟨by decide, by decide⟩
  obtain ⟨T8, h8, X8, e8, W8, st8⟩ := stB X7 hx hZ e7 Ar8 (j := (2 : Int32)) hin8 (g := (mkF m 99 #[.val (.int p1), .val (.int p2), .val (.int p3), .val (.long q4), .second, .val (.long q5), .second, .val (.int (Voff p1)), .val (.int (Vs p1)), .val (.int (Vn p2)), .val (.int (Vd p3)), .unset, .unset, .unset, .unset, .unset] [(.int (F1 (2 : Int32) (Voff p1) (Vs p1) (Vn p2) (Vd p3) q4 q5)), (.int (2 : Int32)), (.ref b2), (.ref b2)])) rfl rfl (hb hby at_99)
  have V8_b2 : Arv Z h8 b2 k2 .byte (27 : Int32) [(.int (nar .byte (F1 (0 : Int32) (Voff p1) (Vs p1) (Vn p2) (Vd p3) q4 q5))), (.int (nar .byte (F1 (1 : Int32) (Voff p1) (Vs p1) (Vn p2) (Vd p3) q4 q5))), (.int (nar .byte (F1 (2 : Int32) (Voff p1) (Vs p1) (Vn p2) (Vd p3) q4 q5))), (.int (0 : Int32)), (.int (0 : Int32)), (.int (0 : Int32)), (.int (0 : Int32)), (.int (0 : Int32)), (.int (0 : Int32)), (.int (0 : Int32)), (.int (0 : Int32)), (.int (0 : Int32)), (.int (0 : Int32)), (.int (0 : Int32)), (.int (0 : Int32)), (.int (0 : Int32)), (.int (0 : Int32)), (.int (0 : Int32)), (.int (0 : Int32)), (.int (0 : Int32)), (.int (0 : Int32)), (.int (0 : Int32)), (.int (0 : Int32)), (.int (0 : Int32)), (.int (0 : Int32)), (.int (0 : Int32)), (.int (0 : Int32))] (.int (0 : Int32)) := Arv.set Ar8 aq8 aS8 aN8 aH8 aG8 (fits_nar_byte _) W8 2 rfl (Nat.le_of_ble_eq_true rfl)
  have N8 := Fr.snoc X8 N7 g_b2
  have Z8 := Nat.le_trans Z6 (Keep.of_wr W8).1
  obtain ⟨_, _, ⟨T9, L9, k9, n9⟩, -, X9, ⟨Lc9, hQ9, l9, y9, z9⟩, st9⟩ := Jvm.LawKit.callS X8 hx (y := (⟨"com/example/levelwright/levelwright/BzwShapeIsPlainWholePinLaw", "at", "(IIIIIJJ)B"⟩ : MethodName)) hown (mvT hZ (hw _ (List.mem_of_getElem? (i := 2) rfl))) (mvT hZ (hw _ (List.mem_of_getElem? (i := 3) rfl))) (mvT hZ (hw _ (List.mem_of_getElem? (i := 4) rfl))) (mvT hZ (hw _ (List.mem_of_getElem? (i := 5) rfl))) (by decide) (backOf (W := 3) (rm1 l Z a0 hw [] (3 : Int32) (Voff p1) (Vs p1) (Vn p2) (Vd p3) q4 q5 h8 n0 Z8 ) hZ (hw _ (List.mem_of_getElem? (i := 5) rfl)) (hw _ (List.mem_of_getElem? (i := 4) rfl)) (by decide) (by decide)) (g := (mkF m 114 #[.val (.int p1), .val (.int p2), .val (.int p3), .val (.long q4), .second, .val (.long q5), .second, .val (.int (Voff p1)), .val (.int (Vs p1)), .val (.int (Vn p2)), .val (.int (Vd p3)), .unset, .unset, .unset, .unset, .unset] [(.long q5), (.long q4), (.int (Vd p3)), (.int (Vn p2)), (.int (Vs p1)), (.int (Voff p1)), (.int (3 : Int32)), (.int (3 : Int32)), (.ref b2), (.ref b2)])) rfl (by rw [hml]; rfl) (argsL := [(.int (3 : Int32)), (.int (Voff p1)), (.int (Vs p1)), (.int (Vn p2)), (.int (Vd p3)), (.long q4), (.long q5)]) (rest := [(.int (3 : Int32)), (.ref b2), (.ref b2)]) (lenOf pd_2 rfl) rfl (by show 2 * 0 + _ ≤ _; exact Nat.le_of_eq rfl) (hb hby at_114) (fun _ _ => ⟨rfl, e8, (by decide : 1 + 0 ≤ _), (by decide : 27 + 0 ≤ _)⟩)
  dsimp only [Pt.U, Pt.locs, Pt.cells, Pt.slots] at X9 l9 y9 z9 st9 hQ9
  obtain rfl : k9 = 1 := y9
  obtain rfl : n9 = 27 := z9
  obtain ⟨rfl, N9q, e9⟩ := hQ9
  have N9 : Fr n0 L9 := by rw [l9]; exact Fr.app N8 N9q
  obtain ⟨cl10, Ar10, aq10, aS10, aN10, aH10, aG10⟩ := id V8_b2
  have hin10 : ¬ ((3 : Int32) < 0 ∨ cl10.slots.size ≤ ((3 : Int32)).toNatClampNeg) := inb_of aS10 ⟨by decide, by decide⟩
  obtain ⟨T10, h10, X10, e10, W10, st10⟩ := stB X9 hx hZ e9 Ar10 (j := (3 : Int32)) hin10 (g := (mkF m 117 #[.val (.int p1), .val (.int p2), .val (.int p3), .val (.long q4), .second, .val (.long q5), .second, .val (.int (Voff p1)), .val (.int (Vs p1)), .val (.int (Vn p2)), .val (.int (Vd p3)), .unset, .unset, .unset, .unset, .unset] [(.int (F1 (3 : Int32) (Voff p1) (Vs p1) (Vn p2) (Vd p3) q4 q5)), (.int (3 : Int32)), (.ref b2), (.ref b2)])) rfl rfl (hb hby at_117)
  have V10_b2 : Arv Z h10 b2 k2 .byte (27 : Int32) [(.int (nar .byte (F1 (0 : Int32) (Voff p1) (Vs p1) (Vn p2) (Vd p3) q4 q5))), (.int (nar .byte (F1 (1 : Int32) (Voff p1) (Vs p1) (Vn p2) (Vd p3) q4 q5))), (.int (nar .byte (F1 (2 : Int32) (Voff p1) (Vs p1) (Vn p2) (Vd p3) q4 q5))), (.int (nar .byte (F1 (3 : Int32) (Voff p1) (Vs p1) (Vn p2) (Vd p3) q4 q5))), (.int (0 : Int32)), (.int (0 : Int32)), (.int (0 : Int32)), (.int (0 : Int32)), (.int (0 : Int32)), (.int (0 : Int32)), (.int (0 : Int32)), (.int (0 : Int32)), (.int (0 : Int32)), (.int (0 : Int32)), (.int (0 : Int32)), (.int (0 : Int32)), (.int (0 : Int32)), (.int (0 : Int32)), (.int (0 : Int32)), (.int (0 : Int32)), (.int (0 : Int32)), (.int (0 : Int32)), (.int (0 : Int32)), (.int (0 : Int32)), (.int (0 : Int32)), (.int (0 : Int32)), (.int (0 : Int32))] (.int (0 : Int32)) := Arv.set Ar10 aq10 aS10 aN10 aH10 aG10 (fits_nar_byte _) W10 3 rfl (Nat.le_of_ble_eq_true rfl)
  have N10 := Fr.snoc X10 N9 g_b2
  have Z10 := Nat.le_trans Z8 (Keep.of_wr W10).1
  obtain ⟨_, _, ⟨T11, L11, k11, n11⟩, -, X11, ⟨Lc11, hQ11, l11, y11, z11⟩, st11⟩ := Jvm.LawKit.callS X10 hx (y := (⟨"com/example/levelwright/levelwright/BzwShapeIsPlainWholePinLaw", "at", "(IIIIIJJ)B"⟩ : MethodName)) hown (mvT hZ (hw _ (List.mem_of_getElem? (i := 2) rfl))) (mvT hZ (hw _ (List.mem_of_getElem? (i := 3) rfl))) (mvT hZ (hw _ (List.mem_of_getElem? (i := 4) rfl))) (mvT hZ (hw _ (List.mem_of_getElem? (i := 5) rfl))) (by decide) (backOf (W := 3) (rm1 l Z a0 hw [] (4 : Int32) (Voff p1) (Vs p1) (Vn p2) (Vd p3) q4 q5 h10 n0 Z10 ) hZ (hw _ (List.mem_of_getElem? (i := 5) rfl)) (hw _ (List.mem_of_getElem? (i := 4) rfl)) (by decide) (by decide)) (g := (mkF m 132 #[.val (.int p1), .val (.int p2), .val (.int p3), .val (.long q4), .second, .val (.long q5), .second, .val (.int (Voff p1)), .val (.int (Vs p1)), .val (.int (Vn p2)), .val (.int (Vd p3)), .unset, .unset, .unset, .unset, .unset] [(.long q5), (.long q4), (.int (Vd p3)), (.int (Vn p2)), (.int (Vs p1)), (.int (Voff p1)), (.int (4 : Int32)), (.int (4 : Int32)), (.ref b2), (.ref b2)])) rfl (by rw [hml]; rfl) (argsL := [(.int (4 : Int32)), (.int (Voff p1)), (.int (Vs p1)), (.int (Vn p2)), (.int (Vd p3)), (.long q4), (.long q5)]) (rest := [(.int (4 : Int32)), (.ref b2), (.ref b2)]) (lenOf pd_2 rfl) rfl (by show 2 * 0 + _ ≤ _; exact Nat.le_of_eq rfl) (hb hby at_132) (fun _ _ => ⟨rfl, e10, (by decide : 1 + 0 ≤ _), (by decide : 27 + 0 ≤ _)⟩)
  dsimp only [Pt.U, Pt.locs, Pt.cells, Pt.slots] at X11 l11 y11 z11 st11 hQ11
  obtain rfl : k11 = 1 := y11
  obtain rfl : n11 = 27 := z11
  obtain ⟨rfl, N11q, e11⟩ := hQ11
  have N11 : Fr n0 L11 := by rw [l11]; exact Fr.app N10 N11q
  obtain ⟨cl12, Ar12, aq12, aS12, aN12, aH12, aG12⟩ := id V10_b2
  have hin12 : ¬ ((4 : Int32) < 0 ∨ cl12.slots.size ≤ ((4 : Int32)).toNatClampNeg) := inb_of aS12 ⟨by decide, by decide⟩
  obtain ⟨T12, h12, X12, e12, W12, st12⟩ := stB X11 hx hZ e11 Ar12 (j := (4 : Int32)) hin12 (g := (mkF m 135 #[.val (.int p1), .val (.int p2), .val (.int p3), .val (.long q4), .second, .val (.long q5), .second, .val (.int (Voff p1)), .val (.int (Vs p1)), .val (.int (Vn p2)), .val (.int (Vd p3)), .unset, .unset, .unset, .unset, .unset] [(.int (F1 (4 : Int32) (Voff p1) (Vs p1) (Vn p2) (Vd p3) q4 q5)), (.int (4 : Int32)), (.ref b2), (.ref b2)])) rfl rfl (hb hby at_135)
  have V12_b2 : Arv Z h12 b2 k2 .byte (27 : Int32) [(.int (nar .byte (F1 (0 : Int32) (Voff p1) (Vs p1) (Vn p2) (Vd p3) q4 q5))), (.int (nar .byte (F1 (1 : Int32) (Voff p1) (Vs p1) (Vn p2) (Vd p3) q4 q5))), (.int (nar .byte (F1 (2 : Int32) (Voff p1) (Vs p1) (Vn p2) (Vd p3) q4 q5))), (.int (nar .byte (F1 (3 : Int32) (Voff p1) (Vs p1) (Vn p2) (Vd p3) q4 q5))), (.int (nar .byte (F1 (4 : Int32) (Voff p1) (Vs p1) (Vn p2) (Vd p3) q4 q5))), (.int (0 : Int32)), (.int (0 : Int32)), (.int (0 : Int32)), (.int (0 : Int32)), (.int (0 : Int32)), (.int (0 : Int32)), (.int (0 : Int32)), (.int (0 : Int32)), (.int (0 : Int32)), (.int (0 : Int32)), (.int (0 : Int32)), (.int (0 : Int32)), (.int (0 : Int32)), (.int (0 : Int32)), (.int (0 : Int32)), (.int (0 : Int32)), (.int (0 : Int32)), (.int (0 : Int32)), (.int (0 : Int32)), (.int (0 : Int32)), (.int (0 : Int32)), (.int (0 : Int32))] (.int (0 : Int32)) := Arv.set Ar12 aq12 aS12 aN12 aH12 aG12 (fits_nar_byte _) W12 4 rfl (Nat.le_of_ble_eq_true rfl)
  have N12 := Fr.snoc X12 N11 g_b2
  have Z12 := Nat.le_trans Z10 (Keep.of_wr W12).1
  obtain ⟨_, _, ⟨T13, L13, k13, n13⟩, -, X13, ⟨Lc13, hQ13, l13, y13, z13⟩, st13⟩ := Jvm.LawKit.callS X12 hx (y := (⟨"com/example/levelwright/levelwright/BzwShapeIsPlainWholePinLaw", "at", "(IIIIIJJ)B"⟩ : MethodName)) hown (mvT hZ (hw _ (List.mem_of_getElem? (i := 2) rfl))) (mvT hZ (hw _ (List.mem_of_getElem? (i := 3) rfl))) (mvT hZ (hw _ (List.mem_of_getElem? (i := 4) rfl))) (mvT hZ (hw _ (List.mem_of_getElem? (i := 5) rfl))) (by decide) (backOf (W := 3) (rm1 l Z a0 hw [] (5 : Int32) (Voff p1) (Vs p1) (Vn p2) (Vd p3) q4 q5 h12 n0 Z12 ) hZ (hw _ (List.mem_of_getElem? (i := 5) rfl)) (hw _ (List.mem_of_getElem? (i := 4) rfl)) (by decide) (by decide)) (g := (mkF m 150 #[.val (.int p1), .val (.int p2), .val (.int p3), .val (.long q4), .second, .val (.long q5), .second, .val (.int (Voff p1)), .val (.int (Vs p1)), .val (.int (Vn p2)), .val (.int (Vd p3)), .unset, .unset, .unset, .unset, .unset] [(.long q5), (.long q4), (.int (Vd p3)), (.int (Vn p2)), (.int (Vs p1)), (.int (Voff p1)), (.int (5 : Int32)), (.int (5 : Int32)), (.ref b2), (.ref b2)])) rfl (by rw [hml]; rfl) (argsL := [(.int (5 : Int32)), (.int (Voff p1)), (.int (Vs p1)), (.int (Vn p2)), (.int (Vd p3)), (.long q4), (.long q5)]) (rest := [(.int (5 : Int32)), (.ref b2), (.ref b2)]) (lenOf pd_2 rfl) rfl (by show 2 * 0 + _ ≤ _; exact Nat.le_of_eq rfl) (hb hby at_150) (fun _ _ => ⟨rfl, e12, (by decide : 1 + 0 ≤ _), (by decide : 27 + 0 ≤ _)⟩)
  dsimp only [Pt.U, Pt.locs, Pt.cells, Pt.slots] at X13 l13 y13 z13 st13 hQ13
  obtain rfl : k13 = 1 := y13
  obtain rfl : n13 = 27 := z13
  obtain ⟨rfl, N13q, e13⟩ := hQ13
  have N13 : Fr n0 L13 := by rw [l13]; exact Fr.app N12 N13q
  obtain ⟨cl14, Ar14, aq14, aS14, aN14, aH14, aG14⟩ := id V12_b2
  have hin14 : ¬ ((5 : Int32) < 0 ∨ cl14.slots.size ≤ ((5 : Int32)).toNatClampNeg) := inb_of aS14 ⟨by decide, by decide⟩
  obtain ⟨T14, h14, X14, e14, W14, st14⟩ := stB X13 hx hZ e13 Ar14 (j := (5 : Int32)) hin14 (g := (mkF m 153 #[.val (.int p1), .val (.int p2), .val (.int p3), .val (.long q4), .second, .val (.long q5), .second, .val (.int (Voff p1)), .val (.int (Vs p1)), .val (.int (Vn p2)), .val (.int (Vd p3)), .unset, .unset, .unset, .unset, .unset] [(.int (F1 (5 : Int32) (Voff p1) (Vs p1) (Vn p2) (Vd p3) q4 q5)), (.int (5 : Int32)), (.ref b2), (.ref b2)])) rfl rfl (hb hby at_153)
  have V14_b2 : Arv Z h14 b2 k2 .byte (27 : Int32) [(.int (nar .byte (F1 (0 : Int32) (Voff p1) (Vs p1) (Vn p2) (Vd p3) q4 q5))), (.int (nar .byte (F1 (1 : Int32) (Voff p1) (Vs p1) (Vn p2) (Vd p3) q4 q5))), (.int (nar .byte (F1 (2 : Int32) (Voff p1) (Vs p1) (Vn p2) (Vd p3) q4 q5))), (.int (nar .byte (F1 (3 : Int32) (Voff p1) (Vs p1) (Vn p2) (Vd p3) q4 q5))), (.int (nar .byte (F1 (4 : Int32) (Voff p1) (Vs p1) (Vn p2) (Vd p3) q4 q5))), (.int (nar .byte (F1 (5 : Int32) (Voff p1) (Vs p1) (Vn p2) (Vd p3) q4 q5))), (.int (0 : Int32)), (.int (0 : Int32)), (.int (0 : Int32)), (.int (0 : Int32)), (.int (0 : Int32)), (.int (0 : Int32)), (.int (0 : Int32)), (.int (0 : Int32)), (.int (0 : Int32)), (.int (0 : Int32)), (.int (0 : Int32)), (.int (0 : Int32)), (.int (0 : Int32)), (.int (0 : Int32)), (.int (0 : Int32)), (.int (0 : Int32)), (.int (0 : Int32)), (.int (0 : Int32)), (.int (0 : Int32)), (.int (0 : Int32)), (.int (0 : Int32))] (.int (0 : Int32)) := Arv.set Ar14 aq14 aS14 aN14 aH14 aG14 (fits_nar_byte _) W14 5 rfl (Nat.le_of_ble_eq_true rfl)
  have N14 := Fr.snoc X14 N13 g_b2
  have Z14 := Nat.le_trans Z12 (Keep.of_wr W14).1
  obtain ⟨_, _, ⟨T15, L15, k15, n15⟩, -, X15, ⟨Lc15, hQ15, l15, y15, z15⟩, st15⟩ := Jvm.LawKit.callS X14 hx (y := (⟨"com/example/levelwright/levelwright/BzwShapeIsPlainWholePinLaw", "at", "(IIIIIJJ)B"⟩ : MethodName)) hown (mvT hZ (hw _ (List.mem_of_getElem? (i := 2) rfl))) (mvT hZ (hw _ (List.mem_of_getElem? (i := 3) rfl))) (mvT hZ (hw _ (List.mem_of_getElem? (i := 4) rfl))) (mvT hZ (hw _ (List.mem_of_getElem? (i := 5) rfl))) (by decide) (backOf (W := 3) (rm1 l Z a0 hw [] (6 : Int32) (Voff p1) (Vs p1) (Vn p2) (Vd p3) q4 q5 h14 n0 Z14 ) hZ (hw _ (List.mem_of_getElem? (i := 5) rfl)) (hw _ (List.mem_of_getElem? (i := 4) rfl)) (by decide) (by decide)) (g := (mkF m 170 #[.val (.int p1), .val (.int p2), .val (.int p3), .val (.long q4), .second, .val (.long q5), .second, .val (.int (Voff p1)), .val (.int (Vs p1)), .val (.int (Vn p2)), .val (.int (Vd p3)), .unset, .unset, .unset, .unset, .unset] [(.long q5), (.long q4), (.int (Vd p3)), (.int (Vn p2)), (.int (Vs p1)), (.int (Voff p1)), (.int (6 : Int32)), (.int (6 : Int32)), (.ref b2), (.ref b2)])) rfl (by rw [hml]; rfl) (argsL := [(.int (6 : Int32)), (.int (Voff p1)), (.int (Vs p1)), (.int (Vn p2)), (.int (Vd p3)), (.long q4), (.long q5)]) (rest := [(.int (6 : Int32)), (.ref b2), (.ref b2)]) (lenOf pd_2 rfl) rfl (by show 2 * 0 + _ ≤ _; exact Nat.le_of_eq rfl) (hb hby at_170) (fun _ _ => ⟨rfl, e14, (by decide : 1 + 0 ≤ _), (by decide : 27 + 0 ≤ _)⟩)
  dsimp only [Pt.U, Pt.locs, Pt.cells, Pt.slots] at X15 l15 y15 z15 st15 hQ15
  obtain rfl : k15 = 1 := y15
  obtain rfl : n15 = 27 := z15
  obtain ⟨rfl, N15q, e15⟩ := hQ15
  have N15 : Fr n0 L15 := by rw [l15]; exact Fr.app N14 N15q
  obtain ⟨cl16, Ar16, aq16, aS16, aN16, aH16, aG16⟩ := id V14_b2
  have hin16 : ¬ ((6 : Int32) < 0 ∨ cl16.slots.size ≤ ((6 : Int32)).toNatClampNeg) := inb_of aS16 ⟨by decide, by decide⟩
  obtain ⟨T16, h16, X16, e16, W16, st16⟩ := stB X15 hx hZ e15 Ar16 (j := (6 : Int32)) hin16 (g := (mkF m 173 #[.val (.int p1), .val (.int p2), .val (.int p3), .val (.long q4), .second, .val (.long q5), .second, .val (.int (Voff p1)), .val (.int (Vs p1)), .val (.int (Vn p2)), .val (.int (Vd p3)), .unset, .unset, .unset, .unset, .unset] [(.int (F1 (6 : Int32) (Voff p1) (Vs p1) (Vn p2) (Vd p3) q4 q5)), (.int (6 : Int32)), (.ref b2), (.ref b2)])) rfl rfl (hb hby at_173)
  have V16_b2 : Arv Z h16 b2 k2 .byte (27 : Int32) [(.int (nar .byte (F1 (0 : Int32) (Voff p1) (Vs p1) (Vn p2) (Vd p3) q4 q5))), (.int (nar .byte (F1 (1 : Int32) (Voff p1) (Vs p1) (Vn p2) (Vd p3) q4 q5))), (.int (nar .byte (F1 (2 : Int32) (Voff p1) (Vs p1) (Vn p2) (Vd p3) q4 q5))), (.int (nar .byte (F1 (3 : Int32) (Voff p1) (Vs p1) (Vn p2) (Vd p3) q4 q5))), (.int (nar .byte (F1 (4 : Int32) (Voff p1) (Vs p1) (Vn p2) (Vd p3) q4 q5))), (.int (nar .byte (F1 (5 : Int32) (Voff p1) (Vs p1) (Vn p2) (Vd p3) q4 q5))), (.int (nar .byte (F1 (6 : Int32) (Voff p1) (Vs p1) (Vn p2) (Vd p3) q4 q5))), (.int (0 : Int32)), (.int (0 : Int32)), (.int (0 : Int32)), (.int (0 : Int32)), (.int (0 : Int32)), (.int (0 : Int32)), (.int (0 : Int32)), (.int (0 : Int32)), (.int (0 : Int32)), (.int (0 : Int32)), (.int (0 : Int32)), (.int (0 : Int32)), (.int (0 : Int32)), (.int (0 : Int32)), (.int (0 : Int32)), (.int (0 : Int32)), (.int (0 : Int32)), (.int (0 : Int32)), (.int (0 : Int32)), (.int (0 : Int32))] (.int (0 : Int32)) := Arv.set Ar16 aq16 aS16 aN16 aH16 aG16 (fits_nar_byte _) W16 6 rfl (Nat.le_of_ble_eq_true rfl)
  have N16 := Fr.snoc X16 N15 g_b2
  have Z16 := Nat.le_trans Z14 (Keep.of_wr W16).1
  obtain ⟨_, _, ⟨T17, L17, k17, n17⟩, -, X17, ⟨Lc17, hQ17, l17, y17, z17⟩, st17⟩ := Jvm.LawKit.callS X16 hx (y := (⟨"com/example/levelwright/levelwright/BzwShapeIsPlainWholePinLaw", "at", "(IIIIIJJ)B"⟩ : MethodName)) hown (mvT hZ (hw _ (List.mem_of_getElem? (i := 2) rfl))) (mvT hZ (hw _ (List.mem_of_getElem? (i := 3) rfl))) (mvT hZ (hw _ (List.mem_of_getElem? (i := 4) rfl))) (mvT hZ (hw _ (List.mem_of_getElem? (i := 5) rfl))) (by decide) (backOf (W := 3) (rm1 l Z a0 hw [] (7 : Int32) (Voff p1) (Vs p1) (Vn p2) (Vd p3) q4 q5 h16 n0 Z16 ) hZ (hw _ (List.mem_of_getElem? (i := 5) rfl)) (hw _ (List.mem_of_getElem? (i := 4) rfl)) (by decide) (by decide)) (g := (mkF m 190 #[.val (.int p1), .val (.int p2), .val (.int p3), .val (.long q4), .second, .val (.long q5), .second, .val (.int (Voff p1)), .val (.int (Vs p1)), .val (.int (Vn p2)), .val (.int (Vd p3)), .unset, .unset, .unset, .unset, .unset] [(.long q5), (.long q4), (.int (Vd p3)), (.int (Vn p2)), (.int (Vs p1)), (.int (Voff p1)), (.int (7 : Int32)), (.int (7 : Int32)), (.ref b2), (.ref b2)])) rfl (by rw [hml]; rfl) (argsL := [(.int (7 : Int32)), (.int (Voff p1)), (.int (Vs p1)), (.int (Vn p2)), (.int (Vd p3)), (.long q4), (.long q5)]) (rest := [(.int (7 : Int32)), (.ref b2), (.ref b2)]) (lenOf pd_2 rfl) rfl (by show 2 * 0 + _ ≤ _; exact Nat.le_of_eq rfl) (hb hby at_190) (fun _ _ => ⟨rfl, e16, (by decide : 1 + 0 ≤ _), (by decide : 27 + 0 ≤ _)⟩)
  dsimp only [Pt.U, Pt.locs, Pt.cells, Pt.slots] at X17 l17 y17 z17 st17 hQ17
  obtain rfl : k17 = 1 := y17
  obtain rfl : n17 = 27 := z17
  obtain ⟨rfl, N17q, e17⟩ := hQ17
  have N17 : Fr n0 L17 := by rw [l17]; exact Fr.app N16 N17q
  obtain ⟨cl18, Ar18, aq18, aS18, aN18, aH18, aG18⟩ := id V16_b2
  have hin18 : ¬ ((7 : Int32) < 0 ∨ cl18.slots.size ≤ ((7 : Int32)).toNatClampNeg) := inb_of aS18 ⟨by decide, by decide⟩
  obtain ⟨T18, h18, X18, e18, W18, st18⟩ := stB X17 hx hZ e17 Ar18 (j := (7 : Int32)) hin18 (g := (mkF m 193 #[.val (.int p1), .val (.int p2), .val (.int p3), .val (.long q4), .second, .val (.long q5), .second, .val (.int (Voff p1)), .val (.int (Vs p1)), .val (.int (Vn p2)), .val (.int (Vd p3)), .unset, .unset, .unset, .unset, .unset] [(.int (F1 (7 : Int32) (Voff p1) (Vs p1) (Vn p2) (Vd p3) q4 q5)), (.int (7 : Int32)), (.ref b2), (.ref b2)])) rfl rfl (hb hby at_193)
  have V18_b2 : Arv Z h18 b2 k2 .byte (27 : Int32) [(.int (nar .byte (F1 (0 : Int32) (Voff p1) (Vs p1) (Vn p2) (Vd p3) q4 q5))), (.int (nar .byte (F1 (1 : Int32) (Voff p1) (Vs p1) (Vn p2) (Vd p3) q4 q5))), (.int (nar .byte (F1 (2 : Int32) (Voff p1) (Vs p1) (Vn p2) (Vd p3) q4 q5))), (.int (nar .byte (F1 (3 : Int32) (Voff p1) (Vs p1) (Vn p2) (Vd p3) q4 q5))), (.int (nar .byte (F1 (4 : Int32) (Voff p1) (Vs p1) (Vn p2) (Vd p3) q4 q5))), (.int (nar .byte (F1 (5 : Int32) (Voff p1) (Vs p1) (Vn p2) (Vd p3) q4 q5))), (.int (nar .byte (F1 (6 : Int32) (Voff p1) (Vs p1) (Vn p2) (Vd p3) q4 q5))), (.int (nar .byte (F1 (7 : Int32) (Voff p1) (Vs p1) (Vn p2) (Vd p3) q4 q5))), (.int (0 : Int32)), (.int (0 : Int32)), (.int (0 : Int32)), (.int (0 : Int32)), (.int (0 : Int32)), (.int (0 : Int32)), (.int (0 : Int32)), (.int (0 : Int32)), (.int (0 : Int32)), (.int (0 : Int32)), (.int (0 : Int32)), (.int (0 : Int32)), (.int (0 : Int32)), (.int (0 : Int32)), (.int (0 : Int32)), (.int (0 : Int32)), (.int (0 : Int32)), (.int (0 : Int32)), (.int (0 : Int32))] (.int (0 : Int32)) := Arv.set Ar18 aq18 aS18 aN18 aH18 aG18 (fits_nar_byte _) W18 7 rfl (Nat.le_of_ble_eq_true rfl)
  have N18 := Fr.snoc X18 N17 g_b2
  have Z18 := Nat.le_trans Z16 (Keep.of_wr W18).1
  obtain ⟨_, _, ⟨T19, L19, k19, n19⟩, -, X19, ⟨Lc19, hQ19, l19, y19, z19⟩, st19⟩ := Jvm.LawKit.callS X18 hx (y := (⟨"com/example/levelwright/levelwright/BzwShapeIsPlainWholePinLaw", "at", "(IIIIIJJ)B"⟩ : MethodName)) hown (mvT hZ (hw _ (List.mem_of_getElem? (i := 2) rfl))) (mvT hZ (hw _ (List.mem_of_getElem? (i := 3) rfl))) (mvT hZ (hw _ (List.mem_of_getElem? (i := 4) rfl))) (mvT hZ (hw _ (List.mem_of_getElem? (i := 5) rfl))) (by decide) (backOf (W := 3) (rm1 l Z a0 hw [] (8 : Int32) (Voff p1) (Vs p1) (Vn p2) (Vd p3) q4 q5 h18 n0 Z18 ) hZ (hw _ (List.mem_of_getElem? (i := 5) rfl)) (hw _ (List.mem_of_getElem? (i := 4) rfl)) (by decide) (by decide)) (g := (mkF m 210 #[.val (.int p1), .val (.int p2), .val (.int p3), .val (.long q4), .second, .val (.long q5), .second, .val (.int (Voff p1)), .val (.int (Vs p1)), .val (.int (Vn p2)), .val (.int (Vd p3)), .unset, .unset, .unset, .unset, .unset] [(.long q5), (.long q4), (.int (Vd p3)), (.int (Vn p2)), (.int (Vs p1)), (.int (Voff p1)), (.int (8 : Int32)), (.int (8 : Int32)), (.ref b2), (.ref b2)])) rfl (by rw [hml]; rfl) (argsL := [(.int (8 : Int32)), (.int (Voff p1)), (.int (Vs p1)), (.int (Vn p2)), (.int (Vd p3)), (.long q4), (.long q5)]) (rest := [(.int (8 : Int32)), (.ref b2), (.ref b2)]) (lenOf pd_2 rfl) rfl (by show 2 * 0 + _ ≤ _; exact Nat.le_of_eq rfl) (hb hby at_210) (fun _ _ => ⟨rfl, e18, (by decide : 1 + 0 ≤ _), (by decide : 27 + 0 ≤ _)⟩)
  dsimp only [Pt.U, Pt.locs, Pt.cells, Pt.slots] at X19 l19 y19 z19 st19 hQ19
  obtain rfl : k19 = 1 := y19
  obtain rfl : n19 = 27 := z19
  obtain ⟨rfl, N19q, e19⟩ := hQ19
  have N19 : Fr n0 L19 := by rw [l19]; exact Fr.app N18 N19q
  obtain ⟨cl20, Ar20, aq20, aS20, aN20, aH20, aG20⟩ := id V18_b2
  have hin20 : ¬ ((8 : Int32) < 0 ∨ cl20.slots.size ≤ ((8 : Int32)).toNatClampNeg) := inb_of aS20 ⟨by decide, by decide⟩
  obtain ⟨T20, h20, X20, e20, W20, st20⟩ := stB X19 hx hZ e19 Ar20 (j := (8 : Int32)) hin20 (g := (mkF m 213 #[.val (.int p1), .val (.int p2), .val (.int p3), .val (.long q4), .second, .val (.long q5), .second, .val (.int (Voff p1)), .val (.int (Vs p1)), .val (.int (Vn p2)), .val (.int (Vd p3)), .unset, .unset, .unset, .unset, .unset] [(.int (F1 (8 : Int32) (Voff p1) (Vs p1) (Vn p2) (Vd p3) q4 q5)), (.int (8 : Int32)), (.ref b2), (.ref b2)])) rfl rfl (hb hby at_213)
  have V20_b2 : Arv Z h20 b2 k2 .byte (27 : Int32) [(.int (nar .byte (F1 (0 : Int32) (Voff p1) (Vs p1) (Vn p2) (Vd p3) q4 q5))), (.int (nar .byte (F1 (1 : Int32) (Voff p1) (Vs p1) (Vn p2) (Vd p3) q4 q5))), (.int (nar .byte (F1 (2 : Int32) (Voff p1) (Vs p1) (Vn p2) (Vd p3) q4 q5))), (.int (nar .byte (F1 (3 : Int32) (Voff p1) (Vs p1) (Vn p2) (Vd p3) q4 q5))), (.int (nar .byte (F1 (4 : Int32) (Voff p1) (Vs p1) (Vn p2) (Vd p3) q4 q5))), (.int (nar .byte (F1 (5 : Int32) (Voff p1) (Vs p1) (Vn p2) (Vd p3) q4 q5))), (.int (nar .byte (F1 (6 : Int32) (Voff p1) (Vs p1) (Vn p2) (Vd p3) q4 q5))), (.int (nar .byte (F1 (7 : Int32) (Voff p1) (Vs p1) (Vn p2) (Vd p3) q4 q5))), (.int (nar .byte (F1 (8 : Int32) (Voff p1) (Vs p1) (Vn p2) (Vd p3) q4 q5))), (.int (0 : Int32)), (.int (0 : Int32)), (.int (0 : Int32)), (.int (0 : Int32)), (.int (0 : Int32)), (.int (0 : Int32)), (.int (0 : Int32)), (.int (0 : Int32)), (.int (0 : Int32)), (.int (0 : Int32)), (.int (0 : Int32)), (.int (0 : Int32)), (.int (0 : Int32)), (.int (0 : Int32)), (.int (0 : Int32)), (.int (0 : Int32)), (.int (0 : Int32)), (.int (0 : Int32))] (.int (0 : Int32)) := Arv.set Ar20 aq20 aS20 aN20 aH20 aG20 (fits_nar_byte _) W20 8 rfl (Nat.le_of_ble_eq_true rfl)
  have N20 := Fr.snoc X20 N19 g_b2
  have Z20 := Nat.le_trans Z18 (Keep.of_wr W20).1
  obtain ⟨_, _, ⟨T21, L21, k21, n21⟩, -, X21, ⟨Lc21, hQ21, l21, y21, z21⟩, st21⟩ := Jvm.LawKit.callS X20 hx (y := (⟨"com/example/levelwright/levelwright/BzwShapeIsPlainWholePinLaw", "at", "(IIIIIJJ)B"⟩ : MethodName)) hown (mvT hZ (hw _ (List.mem_of_getElem? (i := 2) rfl))) (mvT hZ (hw _ (List.mem_of_getElem? (i := 3) rfl))) (mvT hZ (hw _ (List.mem_of_getElem? (i := 4) rfl))) (mvT hZ (hw _ (List.mem_of_getElem? (i := 5) rfl))) (by decide) (backOf (W := 3) (rm1 l Z a0 hw [] (9 : Int32) (Voff p1) (Vs p1) (Vn p2) (Vd p3) q4 q5 h20 n0 Z20 ) hZ (hw _ (List.mem_of_getElem? (i := 5) rfl)) (hw _ (List.mem_of_getElem? (i := 4) rfl)) (by decide) (by decide)) (g := (mkF m 230 #[.val (.int p1), .val (.int p2), .val (.int p3), .val (.long q4), .second, .val (.long q5), .second, .val (.int (Voff p1)), .val (.int (Vs p1)), .val (.int (Vn p2)), .val (.int (Vd p3)), .unset, .unset, .unset, .unset, .unset] [(.long q5), (.long q4), (.int (Vd p3)), (.int (Vn p2)), (.int (Vs p1)), (.int (Voff p1)), (.int (9 : Int32)), (.int (9 : Int32)), (.ref b2), (.ref b2)])) rfl (by rw [hml]; rfl) (argsL := [(.int (9 : Int32)), (.int (Voff p1)), (.int (Vs p1)), (.int (Vn p2)), (.int (Vd p3)), (.long q4), (.long q5)]) (rest := [(.int (9 : Int32)), (.ref b2), (.ref b2)]) (lenOf pd_2 rfl) rfl (by show 2 * 0 + _ ≤ _; exact Nat.le_of_eq rfl) (hb hby at_230) (fun _ _ => ⟨rfl, e20, (by decide : 1 + 0 ≤ _), (by decide : 27 + 0 ≤ _)⟩)
  dsimp only [Pt.U, Pt.locs, Pt.cells, Pt.slots] at X21 l21 y21 z21 st21 hQ21
  obtain rfl : k21 = 1 := y21
  obtain rfl : n21 = 27 := z21
  obtain ⟨rfl, N21q, e21⟩ := hQ21
  have N21 : Fr n0 L21 := by rw [l21]; exact Fr.app N20 N21q
  obtain ⟨cl22, Ar22, aq22, aS22, aN22, aH22, aG22⟩ := id V20_b2
  have hin22 : ¬ ((9 : Int32) < 0 ∨ cl22.slots.size ≤ ((9 : Int32)).toNatClampNeg) := inb_of aS22 ⟨by decide, by decide⟩
  obtain ⟨T22, h22, X22, e22, W22, st22⟩ := stB X21 hx hZ e21 Ar22 (j := (9 : Int32)) hin22 (g := (mkF m 233 #[.val (.int p1), .val (.int p2), .val (.int p3), .val (.long q4), .second, .val (.long q5), .second, .val (.int (Voff p1)), .val (.int (Vs p1)), .val (.int (Vn p2)), .val (.int (Vd p3)), .unset, .unset, .unset, .unset, .unset] [(.int (F1 (9 : Int32) (Voff p1) (Vs p1) (Vn p2) (Vd p3) q4 q5)), (.int (9 : Int32)), (.ref b2), (.ref b2)])) rfl rfl (hb hby at_233)
  have V22_b2 : Arv Z h22 b2 k2 .byte (27 : Int32) [(.int (nar .byte (F1 (0 : Int32) (Voff p1) (Vs p1) (Vn p2) (Vd p3) q4 q5))), (.int (nar .byte (F1 (1 : Int32) (Voff p1) (Vs p1) (Vn p2) (Vd p3) q4 q5))), (.int (nar .byte (F1 (2 : Int32) (Voff p1) (Vs p1) (Vn p2) (Vd p3) q4 q5))), (.int (nar .byte (F1 (3 : Int32) (Voff p1) (Vs p1) (Vn p2) (Vd p3) q4 q5))), (.int (nar .byte (F1 (4 : Int32) (Voff p1) (Vs p1) (Vn p2) (Vd p3) q4 q5))), (.int (nar .byte (F1 (5 : Int32) (Voff p1) (Vs p1) (Vn p2) (Vd p3) q4 q5))), (.int (nar .byte (F1 (6 : Int32) (Voff p1) (Vs p1) (Vn p2) (Vd p3) q4 q5))), (.int (nar .byte (F1 (7 : Int32) (Voff p1) (Vs p1) (Vn p2) (Vd p3) q4 q5))), (.int (nar .byte (F1 (8 : Int32) (Voff p1) (Vs p1) (Vn p2) (Vd p3) q4 q5))), (.int (nar .byte (F1 (9 : Int32) (Voff p1) (Vs p1) (Vn p2) (Vd p3) q4 q5))), (.int (0 : Int32)), (.int (0 : Int32)), (.int (0 : Int32)), (.int (0 : Int32)), (.int (0 : Int32)), (.int (0 : Int32)), (.int (0 : Int32)), (.int (0 : Int32)), (.int (0 : Int32)), (.int (0 : Int32)), (.int (0 : Int32)), (.int (0 : Int32)), (.int (0 : Int32)), (.int (0 : Int32)), (.int (0 : Int32)), (.int (0 : Int32)), (.int (0 : Int32))] (.int (0 : Int32)) := Arv.set Ar22 aq22 aS22 aN22 aH22 aG22 (fits_nar_byte _) W22 9 rfl (Nat.le_of_ble_eq_true rfl)
  have N22 := Fr.snoc X22 N21 g_b2
  have Z22 := Nat.le_trans Z20 (Keep.of_wr W22).1
  obtain ⟨_, _, ⟨T23, L23, k23, n23⟩, -, X23, ⟨Lc23, hQ23, l23, y23, z23⟩, st23⟩ := Jvm.LawKit.callS X22 hx (y := (⟨"com/example/levelwright/levelwright/BzwShapeIsPlainWholePinLaw", "at", "(IIIIIJJ)B"⟩ : MethodName)) hown (mvT hZ (hw _ (List.mem_of_getElem? (i := 2) rfl))) (mvT hZ (hw _ (List.mem_of_getElem? (i := 3) rfl))) (mvT hZ (hw _ (List.mem_of_getElem? (i := 4) rfl))) (mvT hZ (hw _ (List.mem_of_getElem? (i := 5) rfl))) (by decide) (backOf (W := 3) (rm1 l Z a0 hw [] (10 : Int32) (Voff p1) (Vs p1) (Vn p2) (Vd p3) q4 q5 h22 n0 Z22 ) hZ (hw _ (List.mem_of_getElem? (i := 5) rfl)) (hw _ (List.mem_of_getElem? (i := 4) rfl)) (by decide) (by decide)) (g := (mkF m 250 #[.val (.int p1), .val (.int p2), .val (.int p3), .val (.long q4), .second, .val (.long q5), .second, .val (.int (Voff p1)), .val (.int (Vs p1)), .val (.int (Vn p2)), .val (.int (Vd p3)), .unset, .unset, .unset, .unset, .unset] [(.long q5), (.long q4), (.int (Vd p3)), (.int (Vn p2)), (.int (Vs p1)), (.int (Voff p1)), (.int (10 : Int32)), (.int (10 : Int32)), (.ref b2), (.ref b2)])) rfl (by rw [hml]; rfl) (argsL := [(.int (10 : Int32)), (.int (Voff p1)), (.int (Vs p1)), (.int (Vn p2)), (.int (Vd p3)), (.long q4), (.long q5)]) (rest := [(.int (10 : Int32)), (.ref b2), (.ref b2)]) (lenOf pd_2 rfl) rfl (by show 2 * 0 + _ ≤ _; exact Nat.le_of_eq rfl) (hb hby at_250) (fun _ _ => ⟨rfl, e22, (by decide : 1 + 0 ≤ _), (by decide : 27 + 0 ≤ _)⟩)
  dsimp only [Pt.U, Pt.locs, Pt.cells, Pt.slots] at X23 l23 y23 z23 st23 hQ23
  obtain rfl : k23 = 1 := y23
  obtain rfl : n23 = 27 := z23
  obtain ⟨rfl, N23q, e23⟩ := hQ23
  have N23 : Fr n0 L23 := by rw [l23]; exact Fr.app N22 N23q
  obtain ⟨cl24, Ar24, aq24, aS24, aN24, aH24, aG24⟩ := id V22_b2
  have hin24 : ¬ ((10 : Int32) < 0 ∨ cl24.slots.size ≤ ((10 : Int32)).toNatClampNeg) := inb_of aS24 ⟨by decide, by decide⟩
  obtain ⟨T24, h24, X24, e24, W24, st24⟩ := stB X23 hx hZ e23 Ar24 (j := (10 : Int32)) hin24 (g := (mkF m 253 #[.val (.int p1), .val (.int p2), .val (.int p3), .val (.long q4), .second, .val (.long q5), .second, .val (.int (Voff p1)), .val (.int (Vs p1)), .val (.int (Vn p2)), .val (.int (Vd p3)), .unset, .unset, .unset, .unset, .unset] [(.int (F1 (10 : Int32) (Voff p1) (Vs p1) (Vn p2) (Vd p3) q4 q5)), (.int (10 : Int32)), (.ref b2), (.ref b2)])) rfl rfl (hb hby at_253)
  have V24_b2 : Arv Z h24 b2 k2 .byte (27 : Int32) [(.int (nar .byte (F1 (0 : Int32) (Voff p1) (Vs p1) (Vn p2) (Vd p3) q4 q5))), (.int (nar .byte (F1 (1 : Int32) (Voff p1) (Vs p1) (Vn p2) (Vd p3) q4 q5))), (.int (nar .byte (F1 (2 : Int32) (Voff p1) (Vs p1) (Vn p2) (Vd p3) q4 q5))), (.int (nar .byte (F1 (3 : Int32) (Voff p1) (Vs p1) (Vn p2) (Vd p3) q4 q5))), (.int (nar .byte (F1 (4 : Int32) (Voff p1) (Vs p1) (Vn p2) (Vd p3) q4 q5))), (.int (nar .byte (F1 (5 : Int32) (Voff p1) (Vs p1) (Vn p2) (Vd p3) q4 q5))), (.int (nar .byte (F1 (6 : Int32) (Voff p1) (Vs p1) (Vn p2) (Vd p3) q4 q5))), (.int (nar .byte (F1 (7 : Int32) (Voff p1) (Vs p1) (Vn p2) (Vd p3) q4 q5))), (.int (nar .byte (F1 (8 : Int32) (Voff p1) (Vs p1) (Vn p2) (Vd p3) q4 q5))), (.int (nar .byte (F1 (9 : Int32) (Voff p1) (Vs p1) (Vn p2) (Vd p3) q4 q5))), (.int (nar .byte (F1 (10 : Int32) (Voff p1) (Vs p1) (Vn p2) (Vd p3) q4 q5))), (.int (0 : Int32)), (.int (0 : Int32)), (.int (0 : Int32)), (.int (0 : Int32)), (.int (0 : Int32)), (.int (0 : Int32)), (.int (0 : Int32)), (.int (0 : Int32)), (.int (0 : Int32)), (.int (0 : Int32)), (.int (0 : Int32)), (.int (0 : Int32)), (.int (0 : Int32)), (.int (0 : Int32)), (.int (0 : Int32)), (.int (0 : Int32))] (.int (0 : Int32)) := Arv.set Ar24 aq24 aS24 aN24 aH24 aG24 (fits_nar_byte _) W24 10 rfl (Nat.le_of_ble_eq_true rfl)
  have N24 := Fr.snoc X24 N23 g_b2
  have Z24 := Nat.le_trans Z22 (Keep.of_wr W24).1
  obtain ⟨_, _, ⟨T25, L25, k25, n25⟩, -, X25, ⟨Lc25, hQ25, l25, y25, z25⟩, st25⟩ := Jvm.LawKit.callS X24 hx (y := (⟨"com/example/levelwright/levelwright/BzwShapeIsPlainWholePinLaw", "at", "(IIIIIJJ)B"⟩ : MethodName)) hown (mvT hZ (hw _ (List.mem_of_getElem? (i := 2) rfl))) (mvT hZ (hw _ (List.mem_of_getElem? (i := 3) rfl))) (mvT hZ (hw _ (List.mem_of_getElem? (i := 4) rfl))) (mvT hZ (hw _ (List.mem_of_getElem? (i := 5) rfl))) (by decide) (backOf (W := 3) (rm1 l Z a0 hw [] (11 : Int32) (Voff p1) (Vs p1) (Vn p2) (Vd p3) q4 q5 h24 n0 Z24 ) hZ (hw _ (List.mem_of_getElem? (i := 5) rfl)) (hw _ (List.mem_of_getElem? (i := 4) rfl)) (by decide) (by decide)) (g := (mkF m 270 #[.val (.int p1), .val (.int p2), .val (.int p3), .val (.long q4), .second, .val (.long q5), .second, .val (.int (Voff p1)), .val (.int (Vs p1)), .val (.int (Vn p2)), .val (.int (Vd p3)), .unset, .unset, .unset, .unset, .unset] [(.long q5), (.long q4), (.int (Vd p3)), (.int (Vn p2)), (.int (Vs p1)), (.int (Voff p1)), (.int (11 : Int32)), (.int (11 : Int32)), (.ref b2), (.ref b2)])) rfl (by rw [hml]; rfl) (argsL := [(.int (11 : Int32)), (.int (Voff p1)), (.int (Vs p1)), (.int (Vn p2)), (.int (Vd p3)), (.long q4), (.long q5)]) (rest := [(.int (11 : Int32)), (.ref b2), (.ref b2)]) (lenOf pd_2 rfl) rfl (by show 2 * 0 + _ ≤ _; exact Nat.le_of_eq rfl) (hb hby at_270) (fun _ _ => ⟨rfl, e24, (by decide : 1 + 0 ≤ _), (by decide : 27 + 0 ≤ _)⟩)
  dsimp only [Pt.U, Pt.locs, Pt.cells, Pt.slots] at X25 l25 y25 z25 st25 hQ25
  obtain rfl : k25 = 1 := y25
  obtain rfl : n25 = 27 := z25
  obtain ⟨rfl, N25q, e25⟩ := hQ25
  have N25 : Fr n0 L25 := by rw [l25]; exact Fr.app N24 N25q
  obtain ⟨cl26, Ar26, aq26, aS26, aN26, aH26, aG26⟩ := id V24_b2
  have hin26 : ¬ ((11 : Int32) < 0 ∨ cl26.slots.size ≤ ((11 : Int32)).toNatClampNeg) := inb_of aS26 ⟨by decide, by decide⟩
  obtain ⟨T26, h26, X26, e26, W26, st26⟩ := stB X25 hx hZ e25 Ar26 (j := (11 : Int32)) hin26 (g := (mkF m 273 #[.val (.int p1), .val (.int p2), .val (.int p3), .val (.long q4), .second, .val (.long q5), .second, .val (.int (Voff p1)), .val (.int (Vs p1)), .val (.int (Vn p2)), .val (.int (Vd p3)), .unset, .unset, .unset, .unset, .unset] [(.int (F1 (11 : Int32) (Voff p1) (Vs p1) (Vn p2) (Vd p3) q4 q5)), (.int (11 : Int32)), (.ref b2), (.ref b2)])) rfl rfl (hb hby at_273)
  have V26_b2 : Arv Z h26 b2 k2 .byte (27 : Int32) [(.int (nar .byte (F1 (0 : Int32) (Voff p1) (Vs p1) (Vn p2) (Vd p3) q4 q5))), (.int (nar .byte (F1 (1 : Int32) (Voff p1) (Vs p1) (Vn p2) (Vd p3) q4 q5))), (.int (nar .byte (F1 (2 : Int32) (Voff p1) (Vs p1) (Vn p2) (Vd p3) q4 q5))), (.int (nar .byte (F1 (3 : Int32) (Voff p1) (Vs p1) (Vn p2) (Vd p3) q4 q5))), (.int (nar .byte (F1 (4 : Int32) (Voff p1) (Vs p1) (Vn p2) (Vd p3) q4 q5))), (.int (nar .byte (F1 (5 : Int32) (Voff p1) (Vs p1) (Vn p2) (Vd p3) q4 q5))), (.int (nar .byte (F1 (6 : Int32) (Voff p1) (Vs p1) (Vn p2) (Vd p3) q4 q5))), (.int (nar .byte (F1 (7 : Int32) (Voff p1) (Vs p1) (Vn p2) (Vd p3) q4 q5))), (.int (nar .byte (F1 (8 : Int32) (Voff p1) (Vs p1) (Vn p2) (Vd p3) q4 q5))), (.int (nar .byte (F1 (9 : Int32) (Voff p1) (Vs p1) (Vn p2) (Vd p3) q4 q5))), (.int (nar .byte (F1 (10 : Int32) (Voff p1) (Vs p1) (Vn p2) (Vd p3) q4 q5))), (.int (nar .byte (F1 (11 : Int32) (Voff p1) (Vs p1) (Vn p2) (Vd p3) q4 q5))), (.int (0 : Int32)), (.int (0 : Int32)), (.int (0 : Int32)), (.int (0 : Int32)), (.int (0 : Int32)), (.int (0 : Int32)), (.int (0 : Int32)), (.int (0 : Int32)), (.int (0 : Int32)), (.int (0 : Int32)), (.int (0 : Int32)), (.int (0 : Int32)), (.int (0 : Int32)), (.int (0 : Int32)), (.int (0 : Int32))] (.int (0 : Int32)) := Arv.set Ar26 aq26 aS26 aN26 aH26 aG26 (fits_nar_byte _) W26 11 rfl (Nat.le_of_ble_eq_true rfl)
  have N26 := Fr.snoc X26 N25 g_b2
  have Z26 := Nat.le_trans Z24 (Keep.of_wr W26).1
  obtain ⟨_, _, ⟨T27, L27, k27, n27⟩, -, X27, ⟨Lc27, hQ27, l27, y27, z27⟩, st27⟩ := Jvm.LawKit.callS X26 hx (y := (⟨"com/example/levelwright/levelwright/BzwShapeIsPlainWholePinLaw", "at", "(IIIIIJJ)B"⟩ : MethodName)) hown (mvT hZ (hw _ (List.mem_of_getElem? (i := 2) rfl))) (mvT hZ (hw _ (List.mem_of_getElem? (i := 3) rfl))) (mvT hZ (hw _ (List.mem_of_getElem? (i := 4) rfl))) (mvT hZ (hw _ (List.mem_of_getElem? (i := 5) rfl))) (by decide) (backOf (W := 3) (rm1 l Z a0 hw [] (12 : Int32) (Voff p1) (Vs p1) (Vn p2) (Vd p3) q4 q5 h26 n0 Z26 ) hZ (hw _ (List.mem_of_getElem? (i := 5) rfl)) (hw _ (List.mem_of_getElem? (i := 4) rfl)) (by decide) (by decide)) (g := (mkF m 290 #[.val (.int p1), .val (.int p2), .val (.int p3), .val (.long q4), .second, .val (.long q5), .second, .val (.int (Voff p1)), .val (.int (Vs p1)), .val (.int (Vn p2)), .val (.int (Vd p3)), .unset, .unset, .unset, .unset, .unset] [(.long q5), (.long q4), (.int (Vd p3)), (.int (Vn p2)), (.int (Vs p1)), (.int (Voff p1)), (.int (12 : Int32)), (.int (12 : Int32)), (.ref b2), (.ref b2)])) rfl (by rw [hml]; rfl) (argsL := [(.int (12 : Int32)), (.int (Voff p1)), (.int (Vs p1)), (.int (Vn p2)), (.int (Vd p3)), (.long q4), (.long q5)]) (rest := [(.int (12 : Int32)), (.ref b2), (.ref b2)]) (lenOf pd_2 rfl) rfl (by show 2 * 0 + _ ≤ _; exact Nat.le_of_eq rfl) (hb hby at_290) (fun _ _ => ⟨rfl, e26, (by decide : 1 + 0 ≤ _), (by decide : 27 + 0 ≤ _)⟩)
  dsimp only [Pt.U, Pt.locs, Pt.cells, Pt.slots] at X27 l27 y27 z27 st27 hQ27
  obtain rfl : k27 = 1 := y27
  obtain rfl : n27 = 27 := z27
  obtain ⟨rfl, N27q, e27⟩ := hQ27
  have N27 : Fr n0 L27 := by rw [l27]; exact Fr.app N26 N27q
  obtain ⟨cl28, Ar28, aq28, aS28, aN28, aH28, aG28⟩ := id V26_b2
  have hin28 : ¬ ((12 : Int32) < 0 ∨ cl28.slots.size ≤ ((12 : Int32)).toNatClampNeg) := inb_of aS28 ⟨by decide, by decide⟩
  obtain ⟨T28, h28, X28, e28, W28, st28⟩ := stB X27 hx hZ e27 Ar28 (j := (12 : Int32)) hin28 (g := (mkF m 293 #[.val (.int p1), .val (.int p2), .val (.int p3), .val (.long q4), .second, .val (.long q5), .second, .val (.int (Voff p1)), .val (.int (Vs p1)), .val (.int (Vn p2)), .val (.int (Vd p3)), .unset, .unset, .unset, .unset, .unset] [(.int (F1 (12 : Int32) (Voff p1) (Vs p1) (Vn p2) (Vd p3) q4 q5)), (.int (12 : Int32)), (.ref b2), (.ref b2)])) rfl rfl (hb hby at_293)
  have V28_b2 : Arv Z h28 b2 k2 .byte (27 : Int32) [(.int (nar .byte (F1 (0 : Int32) (Voff p1) (Vs p1) (Vn p2) (Vd p3) q4 q5))), (.int (nar .byte (F1 (1 : Int32) (Voff p1) (Vs p1) (Vn p2) (Vd p3) q4 q5))), (.int (nar .byte (F1 (2 : Int32) (Voff p1) (Vs p1) (Vn p2) (Vd p3) q4 q5))), (.int (nar .byte (F1 (3 : Int32) (Voff p1) (Vs p1) (Vn p2) (Vd p3) q4 q5))), (.int (nar .byte (F1 (4 : Int32) (Voff p1) (Vs p1) (Vn p2) (Vd p3) q4 q5))), (.int (nar .byte (F1 (5 : Int32) (Voff p1) (Vs p1) (Vn p2) (Vd p3) q4 q5))), (.int (nar .byte (F1 (6 : Int32) (Voff p1) (Vs p1) (Vn p2) (Vd p3) q4 q5))), (.int (nar .byte (F1 (7 : Int32) (Voff p1) (Vs p1) (Vn p2) (Vd p3) q4 q5))), (.int (nar .byte (F1 (8 : Int32) (Voff p1) (Vs p1) (Vn p2) (Vd p3) q4 q5))), (.int (nar .byte (F1 (9 : Int32) (Voff p1) (Vs p1) (Vn p2) (Vd p3) q4 q5))), (.int (nar .byte (F1 (10 : Int32) (Voff p1) (Vs p1) (Vn p2) (Vd p3) q4 q5))), (.int (nar .byte (F1 (11 : Int32) (Voff p1) (Vs p1) (Vn p2) (Vd p3) q4 q5))), (.int (nar .byte (F1 (12 : Int32) (Voff p1) (Vs p1) (Vn p2) (Vd p3) q4 q5))), (.int (0 : Int32)), (.int (0 : Int32)), (.int (0 : Int32)), (.int (0 : Int32)), (.int (0 : Int32)), (.int (0 : Int32)), (.int (0 : Int32)), (.int (0 : Int32)), (.int (0 : Int32)), (.int (0 : Int32)), (.int (0 : Int32)), (.int (0 : Int32)), (.int (0 : Int32)), (.int (0 : Int32))] (.int (0 : Int32)) := Arv.set Ar28 aq28 aS28 aN28 aH28 aG28 (fits_nar_byte _) W28 12 rfl (Nat.le_of_ble_eq_true rfl)
  have N28 := Fr.snoc X28 N27 g_b2
  have Z28 := Nat.le_trans Z26 (Keep.of_wr W28).1
  obtain ⟨_, _, ⟨T29, L29, k29, n29⟩, -, X29, ⟨Lc29, hQ29, l29, y29, z29⟩, st29⟩ := Jvm.LawKit.callS X28 hx (y := (⟨"com/example/levelwright/levelwright/BzwShapeIsPlainWholePinLaw", "at", "(IIIIIJJ)B"⟩ : MethodName)) hown (mvT hZ (hw _ (List.mem_of_getElem? (i := 2) rfl))) (mvT hZ (hw _ (List.mem_of_getElem? (i := 3) rfl))) (mvT hZ (hw _ (List.mem_of_getElem? (i := 4) rfl))) (mvT hZ (hw _ (List.mem_of_getElem? (i := 5) rfl))) (by decide) (backOf (W := 3) (rm1 l Z a0 hw [] (13 : Int32) (Voff p1) (Vs p1) (Vn p2) (Vd p3) q4 q5 h28 n0 Z28 ) hZ (hw _ (List.mem_of_getElem? (i := 5) rfl)) (hw _ (List.mem_of_getElem? (i := 4) rfl)) (by decide) (by decide)) (g := (mkF m 310 #[.val (.int p1), .val (.int p2), .val (.int p3), .val (.long q4), .second, .val (.long q5), .second, .val (.int (Voff p1)), .val (.int (Vs p1)), .val (.int (Vn p2)), .val (.int (Vd p3)), .unset, .unset, .unset, .unset, .unset] [(.long q5), (.long q4), (.int (Vd p3)), (.int (Vn p2)), (.int (Vs p1)), (.int (Voff p1)), (.int (13 : Int32)), (.int (13 : Int32)), (.ref b2), (.ref b2)])) rfl (by rw [hml]; rfl) (argsL := [(.int (13 : Int32)), (.int (Voff p1)), (.int (Vs p1)), (.int (Vn p2)), (.int (Vd p3)), (.long q4), (.long q5)]) (rest := [(.int (13 : Int32)), (.ref b2), (.ref b2)]) (lenOf pd_2 rfl) rfl (by show 2 * 0 + _ ≤ _; exact Nat.le_of_eq rfl) (hb hby at_310) (fun _ _ => ⟨rfl, e28, (by decide : 1 + 0 ≤ _), (by decide : 27 + 0 ≤ _)⟩)
  dsimp only [Pt.U, Pt.locs, Pt.cells, Pt.slots] at X29 l29 y29 z29 st29 hQ29
  obtain rfl : k29 = 1 := y29
  obtain rfl : n29 = 27 := z29
  obtain ⟨rfl, N29q, e29⟩ := hQ29
  have N29 : Fr n0 L29 := by rw [l29]; exact Fr.app N28 N29q
  obtain ⟨cl30, Ar30, aq30, aS30, aN30, aH30, aG30⟩ := id V28_b2
  have hin30 : ¬ ((13 : Int32) < 0 ∨ cl30.slots.size ≤ ((13 : Int32)).toNatClampNeg) := inb_of aS30 ⟨by decide, by decide⟩
  obtain ⟨T30, h30, X30, e30, W30, st30⟩ := stB X29 hx hZ e29 Ar30 (j := (13 : Int32)) hin30 (g := (mkF m 313 #[.val (.int p1), .val (.int p2), .val (.int p3), .val (.long q4), .second, .val (.long q5), .second, .val (.int (Voff p1)), .val (.int (Vs p1)), .val (.int (Vn p2)), .val (.int (Vd p3)), .unset, .unset, .unset, .unset, .unset] [(.int (F1 (13 : Int32) (Voff p1) (Vs p1) (Vn p2) (Vd p3) q4 q5)), (.int (13 : Int32)), (.ref b2), (.ref b2)])) rfl rfl (hb hby at_313)
  have V30_b2 : Arv Z h30 b2 k2 .byte (27 : Int32) [(.int (nar .byte (F1 (0 : Int32) (Voff p1) (Vs p1) (Vn p2) (Vd p3) q4 q5))), (.int (nar .byte (F1 (1 : Int32) (Voff p1) (Vs p1) (Vn p2) (Vd p3) q4 q5))), (.int (nar .byte (F1 (2 : Int32) (Voff p1) (Vs p1) (Vn p2) (Vd p3) q4 q5))), (.int (nar .byte (F1 (3 : Int32) (Voff p1) (Vs p1) (Vn p2) (Vd p3) q4 q5))), (.int (nar .byte (F1 (4 : Int32) (Voff p1) (Vs p1) (Vn p2) (Vd p3) q4 q5))), (.int (nar .byte (F1 (5 : Int32) (Voff p1) (Vs p1) (Vn p2) (Vd p3) q4 q5))), (.int (nar .byte (F1 (6 : Int32) (Voff p1) (Vs p1) (Vn p2) (Vd p3) q4 q5))), (.int (nar .byte (F1 (7 : Int32) (Voff p1) (Vs p1) (Vn p2) (Vd p3) q4 q5))), (.int (nar .byte (F1 (8 : Int32) (Voff p1) (Vs p1) (Vn p2) (Vd p3) q4 q5))), (.int (nar .byte (F1 (9 : Int32) (Voff p1) (Vs p1) (Vn p2) (Vd p3) q4 q5))), (.int (nar .byte (F1 (10 : Int32) (Voff p1) (Vs p1) (Vn p2) (Vd p3) q4 q5))), (.int (nar .byte (F1 (11 : Int32) (Voff p1) (Vs p1) (Vn p2) (Vd p3) q4 q5))), (.int (nar .byte (F1 (12 : Int32) (Voff p1) (Vs p1) (Vn p2) (Vd p3) q4 q5))), (.int (nar .byte (F1 (13 : Int32) (Voff p1) (Vs p1) (Vn p2) (Vd p3) q4 q5))), (.int (0 : Int32)), (.int (0 : Int32)), (.int (0 : Int32)), (.int (0 : Int32)), (.int (0 : Int32)), (.int (0 : Int32)), (.int (0 : Int32)), (.int (0 : Int32)), (.int (0 : Int32)), (.int (0 : Int32)), (.int (0 : Int32)), (.int (0 : Int32)), (.int (0 : Int32))] (.int (0 : Int32)) := Arv.set Ar30 aq30 aS30 aN30 aH30 aG30 (fits_nar_byte _) W30 13 rfl (Nat.le_of_ble_eq_true rfl)
  have N30 := Fr.snoc X30 N29 g_b2
  have Z30 := Nat.le_trans Z28 (Keep.of_wr W30).1
  obtain ⟨_, _, ⟨T31, L31, k31, n31⟩, -, X31, ⟨Lc31, hQ31, l31, y31, z31⟩, st31⟩ := Jvm.LawKit.callS X30 hx (y := (⟨"com/example/levelwright/levelwright/BzwShapeIsPlainWholePinLaw", "at", "(IIIIIJJ)B"⟩ : MethodName)) hown (mvT hZ (hw _ (List.mem_of_getElem? (i := 2) rfl))) (mvT hZ (hw _ (List.mem_of_getElem? (i := 3) rfl))) (mvT hZ (hw _ (List.mem_of_getElem? (i := 4) rfl))) (mvT hZ (hw _ (List.mem_of_getElem? (i := 5) rfl))) (by decide) (backOf (W := 3) (rm1 l Z a0 hw [] (14 : Int32) (Voff p1) (Vs p1) (Vn p2) (Vd p3) q4 q5 h30 n0 Z30 ) hZ (hw _ (List.mem_of_getElem? (i := 5) rfl)) (hw _ (List.mem_of_getElem? (i := 4) rfl)) (by decide) (by decide)) (g := (mkF m 330 #[.val (.int p1), .val (.int p2), .val (.int p3), .val (.long q4), .second, .val (.long q5), .second, .val (.int (Voff p1)), .val (.int (Vs p1)), .val (.int (Vn p2)), .val (.int (Vd p3)), .unset, .unset, .unset, .unset, .unset] [(.long q5), (.long q4), (.int (Vd p3)), (.int (Vn p2)), (.int (Vs p1)), (.int (Voff p1)), (.int (14 : Int32)), (.int (14 : Int32)), (.ref b2), (.ref b2)])) rfl (by rw [hml]; rfl) (argsL := [(.int (14 : Int32)), (.int (Voff p1)), (.int (Vs p1)), (.int (Vn p2)), (.int (Vd p3)), (.long q4), (.long q5)]) (rest := [(.int (14 : Int32)), (.ref b2), (.ref b2)]) (lenOf pd_2 rfl) rfl (by show 2 * 0 + _ ≤ _; exact Nat.le_of_eq rfl) (hb hby at_330) (fun _ _ => ⟨rfl, e30, (by decide : 1 + 0 ≤ _), (by decide : 27 + 0 ≤ _)⟩)
  dsimp only [Pt.U, Pt.locs, Pt.cells, Pt.slots] at X31 l31 y31 z31 st31 hQ31
  obtain rfl : k31 = 1 := y31
  obtain rfl : n31 = 27 := z31
  obtain ⟨rfl, N31q, e31⟩ := hQ31
  have N31 : Fr n0 L31 := by rw [l31]; exact Fr.app N30 N31q
  obtain ⟨cl32, Ar32, aq32, aS32, aN32, aH32, aG32⟩ := id V30_b2
  have hin32 : ¬ ((14 : Int32) < 0 ∨ cl32.slots.size ≤ ((14 : Int32)).toNatClampNeg) := inb_of aS32 ⟨by decide, by decide⟩
  obtain ⟨T32, h32, X32, e32, W32, st32⟩ := stB X31 hx hZ e31 Ar32 (j := (14 : Int32)) hin32 (g := (mkF m 333 #[.val (.int p1), .val (.int p2), .val (.int p3), .val (.long q4), .second, .val (.long q5), .second, .val (.int (Voff p1)), .val (.int (Vs p1)), .val (.int (Vn p2)), .val (.int (Vd p3)), .unset, .unset, .unset, .unset, .unset] [(.int (F1 (14 : Int32) (Voff p1) (Vs p1) (Vn p2) (Vd p3) q4 q5)), (.int (14 : Int32)), (.ref b2), (.ref b2)])) rfl rfl (hb hby at_333)
  have V32_b2 : Arv Z h32 b2 k2 .byte (27 : Int32) [(.int (nar .byte (F1 (0 : Int32) (Voff p1) (Vs p1) (Vn p2) (Vd p3) q4 q5))), (.int (nar .byte (F1 (1 : Int32) (Voff p1) (Vs p1) (Vn p2) (Vd p3) q4 q5))), (.int (nar .byte (F1 (2 : Int32) (Voff p1) (Vs p1) (Vn p2) (Vd p3) q4 q5))), (.int (nar .byte (F1 (3 : Int32) (Voff p1) (Vs p1) (Vn p2) (Vd p3) q4 q5))), (.int (nar .byte (F1 (4 : Int32) (Voff p1) (Vs p1) (Vn p2) (Vd p3) q4 q5))), (.int (nar .byte (F1 (5 : Int32) (Voff p1) (Vs p1) (Vn p2) (Vd p3) q4 q5))), (.int (nar .byte (F1 (6 : Int32) (Voff p1) (Vs p1) (Vn p2) (Vd p3) q4 q5))), (.int (nar .byte (F1 (7 : Int32) (Voff p1) (Vs p1) (Vn p2) (Vd p3) q4 q5))), (.int (nar .byte (F1 (8 : Int32) (Voff p1) (Vs p1) (Vn p2) (Vd p3) q4 q5))), (.int (nar .byte (F1 (9 : Int32) (Voff p1) (Vs p1) (Vn p2) (Vd p3) q4 q5))), (.int (nar .byte (F1 (10 : Int32) (Voff p1) (Vs p1) (Vn p2) (Vd p3) q4 q5))), (.int (nar .byte (F1 (11 : Int32) (Voff p1) (Vs p1) (Vn p2) (Vd p3) q4 q5))), (.int (nar .byte (F1 (12 : Int32) (Voff p1) (Vs p1) (Vn p2) (Vd p3) q4 q5))), (.int (nar .byte (F1 (13 : Int32) (Voff p1) (Vs p1) (Vn p2) (Vd p3) q4 q5))), (.int (nar .byte (F1 (14 : Int32) (Voff p1) (Vs p1) (Vn p2) (Vd p3) q4 q5))), (.int (0 : Int32)), (.int (0 : Int32)), (.int (0 : Int32)), (.int (0 : Int32)), (.int (0 : Int32)), (.int (0 : Int32)), (.int (0 : Int32)), (.int (0 : Int32)), (.int (0 : Int32)), (.int (0 : Int32)), (.int (0 : Int32)), (.int (0 : Int32))] (.int (0 : Int32)) := Arv.set Ar32 aq32 aS32 aN32 aH32 aG32 (fits_nar_byte _) W32 14 rfl (Nat.le_of_ble_eq_true rfl)
  have N32 := Fr.snoc X32 N31 g_b2
  have Z32 := Nat.le_trans Z30 (Keep.of_wr W32).1
  obtain ⟨_, _, ⟨T33, L33, k33, n33⟩, -, X33, ⟨Lc33, hQ33, l33, y33, z33⟩, st33⟩ := Jvm.LawKit.callS X32 hx (y := (⟨"com/example/levelwright/levelwright/BzwShapeIsPlainWholePinLaw", "at", "(IIIIIJJ)B"⟩ : MethodName)) hown (mvT hZ (hw _ (List.mem_of_getElem? (i := 2) rfl))) (mvT hZ (hw _ (List.mem_of_getElem? (i := 3) rfl))) (mvT hZ (hw _ (List.mem_of_getElem? (i := 4) rfl))) (mvT hZ (hw _ (List.mem_of_getElem? (i := 5) rfl))) (by decide) (backOf (W := 3) (rm1 l Z a0 hw [] (15 : Int32) (Voff p1) (Vs p1) (Vn p2) (Vd p3) q4 q5 h32 n0 Z32 ) hZ (hw _ (List.mem_of_getElem? (i := 5) rfl)) (hw _ (List.mem_of_getElem? (i := 4) rfl)) (by decide) (by decide)) (g := (mkF m 350 #[.val (.int p1), .val (.int p2), .val (.int p3), .val (.long q4), .second, .val (.long q5), .second, .val (.int (Voff p1)), .val (.int (Vs p1)), .val (.int (Vn p2)), .val (.int (Vd p3)), .unset, .unset, .unset, .unset, .unset] [(.long q5), (.long q4), (.int (Vd p3)), (.int (Vn p2)), (.int (Vs p1)), (.int (Voff p1)), (.int (15 : Int32)), (.int (15 : Int32)), (.ref b2), (.ref b2)])) rfl (by rw [hml]; rfl) (argsL := [(.int (15 : Int32)), (.int (Voff p1)), (.int (Vs p1)), (.int (Vn p2)), (.int (Vd p3)), (.long q4), (.long q5)]) (rest := [(.int (15 : Int32)), (.ref b2), (.ref b2)]) (lenOf pd_2 rfl) rfl (by show 2 * 0 + _ ≤ _; exact Nat.le_of_eq rfl) (hb hby at_350) (fun _ _ => ⟨rfl, e32, (by decide : 1 + 0 ≤ _), (by decide : 27 + 0 ≤ _)⟩)
  dsimp only [Pt.U, Pt.locs, Pt.cells, Pt.slots] at X33 l33 y33 z33 st33 hQ33
  obtain rfl : k33 = 1 := y33
  obtain rfl : n33 = 27 := z33
  obtain ⟨rfl, N33q, e33⟩ := hQ33
  have N33 : Fr n0 L33 := by rw [l33]; exact Fr.app N32 N33q
  obtain ⟨cl34, Ar34, aq34, aS34, aN34, aH34, aG34⟩ := id V32_b2
  have hin34 : ¬ ((15 : Int32) < 0 ∨ cl34.slots.size ≤ ((15 : Int32)).toNatClampNeg) := inb_of aS34 ⟨by decide, by decide⟩
  obtain ⟨T34, h34, X34, e34, W34, st34⟩ := stB X33 hx hZ e33 Ar34 (j := (15 : Int32)) hin34 (g := (mkF m 353 #[.val (.int p1), .val (.int p2), .val (.int p3), .val (.long q4), .second, .val (.long q5), .second, .val (.int (Voff p1)), .val (.int (Vs p1)), .val (.int (Vn p2)), .val (.int (Vd p3)), .unset, .unset, .unset, .unset, .unset] [(.int (F1 (15 : Int32) (Voff p1) (Vs p1) (Vn p2) (Vd p3) q4 q5)), (.int (15 : Int32)), (.ref b2), (.ref b2)])) rfl rfl (hb hby at_353)
  have V34_b2 : Arv Z h34 b2 k2 .byte (27 : Int32) [(.int (nar .byte (F1 (0 : Int32) (Voff p1) (Vs p1) (Vn p2) (Vd p3) q4 q5))), (.int (nar .byte (F1 (1 : Int32) (Voff p1) (Vs p1) (Vn p2) (Vd p3) q4 q5))), (.int (nar .byte (F1 (2 : Int32) (Voff p1) (Vs p1) (Vn p2) (Vd p3) q4 q5))), (.int (nar .byte (F1 (3 : Int32) (Voff p1) (Vs p1) (Vn p2) (Vd p3) q4 q5))), (.int (nar .byte (F1 (4 : Int32) (Voff p1) (Vs p1) (Vn p2) (Vd p3) q4 q5))), (.int (nar .byte (F1 (5 : Int32) (Voff p1) (Vs p1) (Vn p2) (Vd p3) q4 q5))), (.int (nar .byte (F1 (6 : Int32) (Voff p1) (Vs p1) (Vn p2) (Vd p3) q4 q5))), (.int (nar .byte (F1 (7 : Int32) (Voff p1) (Vs p1) (Vn p2) (Vd p3) q4 q5))), (.int (nar .byte (F1 (8 : Int32) (Voff p1) (Vs p1) (Vn p2) (Vd p3) q4 q5))), (.int (nar .byte (F1 (9 : Int32) (Voff p1) (Vs p1) (Vn p2) (Vd p3) q4 q5))), (.int (nar .byte (F1 (10 : Int32) (Voff p1) (Vs p1) (Vn p2) (Vd p3) q4 q5))), (.int (nar .byte (F1 (11 : Int32) (Voff p1) (Vs p1) (Vn p2) (Vd p3) q4 q5))), (.int (nar .byte (F1 (12 : Int32) (Voff p1) (Vs p1) (Vn p2) (Vd p3) q4 q5))), (.int (nar .byte (F1 (13 : Int32) (Voff p1) (Vs p1) (Vn p2) (Vd p3) q4 q5))), (.int (nar .byte (F1 (14 : Int32) (Voff p1) (Vs p1) (Vn p2) (Vd p3) q4 q5))), (.int (nar .byte (F1 (15 : Int32) (Voff p1) (Vs p1) (Vn p2) (Vd p3) q4 q5))), (.int (0 : Int32)), (.int (0 : Int32)), (.int (0 : Int32)), (.int (0 : Int32)), (.int (0 : Int32)), (.int (0 : Int32)), (.int (0 : Int32)), (.int (0 : Int32)), (.int (0 : Int32)), (.int (0 : Int32)), (.int (0 : Int32))] (.int (0 : Int32)) := Arv.set Ar34 aq34 aS34 aN34 aH34 aG34 (fits_nar_byte _) W34 15 rfl (Nat.le_of_ble_eq_true rfl)
  have N34 := Fr.snoc X34 N33 g_b2
  have Z34 := Nat.le_trans Z32 (Keep.of_wr W34).1
  obtain ⟨_, _, ⟨T35, L35, k35, n35⟩, -, X35, ⟨Lc35, hQ35, l35, y35, z35⟩, st35⟩ := Jvm.LawKit.callS X34 hx (y := (⟨"com/example/levelwright/levelwright/BzwShapeIsPlainWholePinLaw", "at", "(IIIIIJJ)B"⟩ : MethodName)) hown (mvT hZ (hw _ (List.mem_of_getElem? (i := 2) rfl))) (mvT hZ (hw _ (List.mem_of_getElem? (i := 3) rfl))) (mvT hZ (hw _ (List.mem_of_getElem? (i := 4) rfl))) (mvT hZ (hw _ (List.mem_of_getElem? (i := 5) rfl))) (by decide) (backOf (W := 3) (rm1 l Z a0 hw [] (16 : Int32) (Voff p1) (Vs p1) (Vn p2) (Vd p3) q4 q5 h34 n0 Z34 ) hZ (hw _ (List.mem_of_getElem? (i := 5) rfl)) (hw _ (List.mem_of_getElem? (i := 4) rfl)) (by decide) (by decide)) (g := (mkF m 370 #[.val (.int p1), .val (.int p2), .val (.int p3), .val (.long q4), .second, .val (.long q5), .second, .val (.int (Voff p1)), .val (.int (Vs p1)), .val (.int (Vn p2)), .val (.int (Vd p3)), .unset, .unset, .unset, .unset, .unset] [(.long q5), (.long q4), (.int (Vd p3)), (.int (Vn p2)), (.int (Vs p1)), (.int (Voff p1)), (.int (16 : Int32)), (.int (16 : Int32)), (.ref b2), (.ref b2)])) rfl (by rw [hml]; rfl) (argsL := [(.int (16 : Int32)), (.int (Voff p1)), (.int (Vs p1)), (.int (Vn p2)), (.int (Vd p3)), (.long q4), (.long q5)]) (rest := [(.int (16 : Int32)), (.ref b2), (.ref b2)]) (lenOf pd_2 rfl) rfl (by show 2 * 0 + _ ≤ _; exact Nat.le_of_eq rfl) (hb hby at_370) (fun _ _ => ⟨rfl, e34, (by decide : 1 + 0 ≤ _), (by decide : 27 + 0 ≤ _)⟩)
  dsimp only [Pt.U, Pt.locs, Pt.cells, Pt.slots] at X35 l35 y35 z35 st35 hQ35
  obtain rfl : k35 = 1 := y35
  obtain rfl : n35 = 27 := z35
  obtain ⟨rfl, N35q, e35⟩ := hQ35
  have N35 : Fr n0 L35 := by rw [l35]; exact Fr.app N34 N35q
  obtain ⟨cl36, Ar36, aq36, aS36, aN36, aH36, aG36⟩ := id V34_b2
  have hin36 : ¬ ((16 : Int32) < 0 ∨ cl36.slots.size ≤ ((16 : Int32)).toNatClampNeg) := inb_of aS36 ⟨by decide, by decide⟩
  obtain ⟨T36, h36, X36, e36, W36, st36⟩ := stB X35 hx hZ e35 Ar36 (j := (16 : Int32)) hin36 (g := (mkF m 373 #[.val (.int p1), .val (.int p2), .val (.int p3), .val (.long q4), .second, .val (.long q5), .second, .val (.int (Voff p1)), .val (.int (Vs p1)), .val (.int (Vn p2)), .val (.int (Vd p3)), .unset, .unset, .unset, .unset, .unset] [(.int (F1 (16 : Int32) (Voff p1) (Vs p1) (Vn p2) (Vd p3) q4 q5)), (.int (16 : Int32)), (.ref b2), (.ref b2)])) rfl rfl (hb hby at_373)
  have V36_b2 : Arv Z h36 b2 k2 .byte (27 : Int32) [(.int (nar .byte (F1 (0 : Int32) (Voff p1) (Vs p1) (Vn p2) (Vd p3) q4 q5))), (.int (nar .byte (F1 (1 : Int32) (Voff p1) (Vs p1) (Vn p2) (Vd p3) q4 q5))), (.int (nar .byte (F1 (2 : Int32) (Voff p1) (Vs p1) (Vn p2) (Vd p3) q4 q5))), (.int (nar .byte (F1 (3 : Int32) (Voff p1) (Vs p1) (Vn p2) (Vd p3) q4 q5))), (.int (nar .byte (F1 (4 : Int32) (Voff p1) (Vs p1) (Vn p2) (Vd p3) q4 q5))), (.int (nar .byte (F1 (5 : Int32) (Voff p1) (Vs p1) (Vn p2) (Vd p3) q4 q5))), (.int (nar .byte (F1 (6 : Int32) (Voff p1) (Vs p1) (Vn p2) (Vd p3) q4 q5))), (.int (nar .byte (F1 (7 : Int32) (Voff p1) (Vs p1) (Vn p2) (Vd p3) q4 q5))), (.int (nar .byte (F1 (8 : Int32) (Voff p1) (Vs p1) (Vn p2) (Vd p3) q4 q5))), (.int (nar .byte (F1 (9 : Int32) (Voff p1) (Vs p1) (Vn p2) (Vd p3) q4 q5))), (.int (nar .byte (F1 (10 : Int32) (Voff p1) (Vs p1) (Vn p2) (Vd p3) q4 q5))), (.int (nar .byte (F1 (11 : Int32) (Voff p1) (Vs p1) (Vn p2) (Vd p3) q4 q5))), (.int (nar .byte (F1 (12 : Int32) (Voff p1) (Vs p1) (Vn p2) (Vd p3) q4 q5))), (.int (nar .byte (F1 (13 : Int32) (Voff p1) (Vs p1) (Vn p2) (Vd p3) q4 q5))), (.int (nar .byte (F1 (14 : Int32) (Voff p1) (Vs p1) (Vn p2) (Vd p3) q4 q5))), (.int (nar .byte (F1 (15 : Int32) (Voff p1) (Vs p1) (Vn p2) (Vd p3) q4 q5))), (.int (nar .byte (F1 (16 : Int32) (Voff p1) (Vs p1) (Vn p2) (Vd p3) q4 q5))), (.int (0 : Int32)), (.int (0 : Int32)), (.int (0 : Int32)), (.int (0 : Int32)), (.int (0 : Int32)), (.int (0 : Int32)), (.int (0 : Int32)), (.int (0 : Int32)), (.int (0 : Int32)), (.int (0 : Int32))] (.int (0 : Int32)) := Arv.set Ar36 aq36 aS36 aN36 aH36 aG36 (fits_nar_byte _) W36 16 rfl (Nat.le_of_ble_eq_true rfl)
  have N36 := Fr.snoc X36 N35 g_b2
  have Z36 := Nat.le_trans Z34 (Keep.of_wr W36).1
  obtain ⟨_, _, ⟨T37, L37, k37, n37⟩, -, X37, ⟨Lc37, hQ37, l37, y37, z37⟩, st37⟩ := Jvm.LawKit.callS X36 hx (y := (⟨"com/example/levelwright/levelwright/BzwShapeIsPlainWholePinLaw", "at", "(IIIIIJJ)B"⟩ : MethodName)) hown (mvT hZ (hw _ (List.mem_of_getElem? (i := 2) rfl))) (mvT hZ (hw _ (List.mem_of_getElem? (i := 3) rfl))) (mvT hZ (hw _ (List.mem_of_getElem? (i := 4) rfl))) (mvT hZ (hw _ (List.mem_of_getElem? (i := 5) rfl))) (by decide) (backOf (W := 3) (rm1 l Z a0 hw [] (17 : Int32) (Voff p1) (Vs p1) (Vn p2) (Vd p3) q4 q5 h36 n0 Z36 ) hZ (hw _ (List.mem_of_getElem? (i := 5) rfl)) (hw _ (List.mem_of_getElem? (i := 4) rfl)) (by decide) (by decide)) (g := (mkF m 390 #[.val (.int p1), .val (.int p2), .val (.int p3), .val (.long q4), .second, .val (.long q5), .second, .val (.int (Voff p1)), .val (.int (Vs p1)), .val (.int (Vn p2)), .val (.int (Vd p3)), .unset, .unset, .unset, .unset, .unset] [(.long q5), (.long q4), (.int (Vd p3)), (.int (Vn p2)), (.int (Vs p1)), (.int (Voff p1)), (.int (17 : Int32)), (.int (17 : Int32)), (.ref b2), (.ref b2)])) rfl (by rw [hml]; rfl) (argsL := [(.int (17 : Int32)), (.int (Voff p1)), (.int (Vs p1)), (.int (Vn p2)), (.int (Vd p3)), (.long q4), (.long q5)]) (rest := [(.int (17 : Int32)), (.ref b2), (.ref b2)]) (lenOf pd_2 rfl) rfl (by show 2 * 0 + _ ≤ _; exact Nat.le_of_eq rfl) (hb hby at_390) (fun _ _ => ⟨rfl, e36, (by decide : 1 + 0 ≤ _), (by decide : 27 + 0 ≤ _)⟩)
  dsimp only [Pt.U, Pt.locs, Pt.cells, Pt.slots] at X37 l37 y37 z37 st37 hQ37
  obtain rfl : k37 = 1 := y37
  obtain rfl : n37 = 27 := z37
  obtain ⟨rfl, N37q, e37⟩ := hQ37
  have N37 : Fr n0 L37 := by rw [l37]; exact Fr.app N36 N37q
  obtain ⟨cl38, Ar38, aq38, aS38, aN38, aH38, aG38⟩ := id V36_b2
  have hin38 : ¬ ((17 : Int32) < 0 ∨ cl38.slots.size ≤ ((17 : Int32)).toNatClampNeg) := inb_of aS38 ⟨by decide, by decide⟩
  obtain ⟨T38, h38, X38, e38, W38, st38⟩ := stB X37 hx hZ e37 Ar38 (j := (17 : Int32)) hin38 (g := (mkF m 393 #[.val (.int p1), .val (.int p2), .val (.int p3), .val (.long q4), .second, .val (.long q5), .second, .val (.int (Voff p1)), .val (.int (Vs p1)), .val (.int (Vn p2)), .val (.int (Vd p3)), .unset, .unset, .unset, .unset, .unset] [(.int (F1 (17 : Int32) (Voff p1) (Vs p1) (Vn p2) (Vd p3) q4 q5)), (.int (17 : Int32)), (.ref b2), (.ref b2)])) rfl rfl (hb hby at_393)
  have V38_b2 : Arv Z h38 b2 k2 .byte (27 : Int32) [(.int (nar .byte (F1 (0 : Int32) (Voff p1) (Vs p1) (Vn p2) (Vd p3) q4 q5))), (.int (nar .byte (F1 (1 : Int32) (Voff p1) (Vs p1) (Vn p2) (Vd p3) q4 q5))), (.int (nar .byte (F1 (2 : Int32) (Voff p1) (Vs p1) (Vn p2) (Vd p3) q4 q5))), (.int (nar .byte (F1 (3 : Int32) (Voff p1) (Vs p1) (Vn p2) (Vd p3) q4 q5))), (.int (nar .byte (F1 (4 : Int32) (Voff p1) (Vs p1) (Vn p2) (Vd p3) q4 q5))), (.int (nar .byte (F1 (5 : Int32) (Voff p1) (Vs p1) (Vn p2) (Vd p3) q4 q5))), (.int (nar .byte (F1 (6 : Int32) (Voff p1) (Vs p1) (Vn p2) (Vd p3) q4 q5))), (.int (nar .byte (F1 (7 : Int32) (Voff p1) (Vs p1) (Vn p2) (Vd p3) q4 q5))), (.int (nar .byte (F1 (8 : Int32) (Voff p1) (Vs p1) (Vn p2) (Vd p3) q4 q5))), (.int (nar .byte (F1 (9 : Int32) (Voff p1) (Vs p1) (Vn p2) (Vd p3) q4 q5))), (.int (nar .byte (F1 (10 : Int32) (Voff p1) (Vs p1) (Vn p2) (Vd p3) q4 q5))), (.int (nar .byte (F1 (11 : Int32) (Voff p1) (Vs p1) (Vn p2) (Vd p3) q4 q5))), (.int (nar .byte (F1 (12 : Int32) (Voff p1) (Vs p1) (Vn p2) (Vd p3) q4 q5))), (.int (nar .byte (F1 (13 : Int32) (Voff p1) (Vs p1) (Vn p2) (Vd p3) q4 q5))), (.int (nar .byte (F1 (14 : Int32) (Voff p1) (Vs p1) (Vn p2) (Vd p3) q4 q5))), (.int (nar .byte (F1 (15 : Int32) (Voff p1) (Vs p1) (Vn p2) (Vd p3) q4 q5))), (.int (nar .byte (F1 (16 : Int32) (Voff p1) (Vs p1) (Vn p2) (Vd p3) q4 q5))), (.int (nar .byte (F1 (17 : Int32) (Voff p1) (Vs p1) (Vn p2) (Vd p3) q4 q5))), (.int (0 : Int32)), (.int (0 : Int32)), (.int (0 : Int32)), (.int (0 : Int32)), (.int (0 : Int32)), (.int (0 : Int32)), (.int (0 : Int32)), (.int (0 : Int32)), (.int (0 : Int32))] (.int (0 : Int32)) := Arv.set Ar38 aq38 aS38 aN38 aH38 aG38 (fits_nar_byte _) W38 17 rfl (Nat.le_of_ble_eq_true rfl)
  have N38 := Fr.snoc X38 N37 g_b2
  have Z38 := Nat.le_trans Z36 (Keep.of_wr W38).1
  obtain ⟨_, _, ⟨T39, L39, k39, n39⟩, -, X39, ⟨Lc39, hQ39, l39, y39, z39⟩, st39⟩ := Jvm.LawKit.callS X38 hx (y := (⟨"com/example/levelwright/levelwright/BzwShapeIsPlainWholePinLaw", "at", "(IIIIIJJ)B"⟩ : MethodName)) hown (mvT hZ (hw _ (List.mem_of_getElem? (i := 2) rfl))) (mvT hZ (hw _ (List.mem_of_getElem? (i := 3) rfl))) (mvT hZ (hw _ (List.mem_of_getElem? (i := 4) rfl))) (mvT hZ (hw _ (List.mem_of_getElem? (i := 5) rfl))) (by decide) (backOf (W := 3) (rm1 l Z a0 hw [] (18 : Int32) (Voff p1) (Vs p1) (Vn p2) (Vd p3) q4 q5 h38 n0 Z38 ) hZ (hw _ (List.mem_of_getElem? (i := 5) rfl)) (hw _ (List.mem_of_getElem? (i := 4) rfl)) (by decide) (by decide)) (g := (mkF m 410 #[.val (.int p1), .val (.int p2), .val (.int p3), .val (.long q4), .second, .val (.long q5), .second, .val (.int (Voff p1)), .val (.int (Vs p1)), .val (.int (Vn p2)), .val (.int (Vd p3)), .unset, .unset, .unset, .unset, .unset] [(.long q5), (.long q4), (.int (Vd p3)), (.int (Vn p2)), (.int (Vs p1)), (.int (Voff p1)), (.int (18 : Int32)), (.int (18 : Int32)), (.ref b2), (.ref b2)])) rfl (by rw [hml]; rfl) (argsL := [(.int (18 : Int32)), (.int (Voff p1)), (.int (Vs p1)), (.int (Vn p2)), (.int (Vd p3)), (.long q4), (.long q5)]) (rest := [(.int (18 : Int32)), (.ref b2), (.ref b2)]) (lenOf pd_2 rfl) rfl (by show 2 * 0 + _ ≤ _; exact Nat.le_of_eq rfl) (hb hby at_410) (fun _ _ => ⟨rfl, e38, (by decide : 1 + 0 ≤ _), (by decide : 27 + 0 ≤ _)⟩)
  dsimp only [Pt.U, Pt.locs, Pt.cells, Pt.slots] at X39 l39 y39 z39 st39 hQ39
  obtain rfl : k39 = 1 := y39
  obtain rfl : n39 = 27 := z39
  obtain ⟨rfl, N39q, e39⟩ := hQ39
  have N39 : Fr n0 L39 := by rw [l39]; exact Fr.app N38 N39q
  obtain ⟨cl40, Ar40, aq40, aS40, aN40, aH40, aG40⟩ := id V38_b2
  have hin40 : ¬ ((18 : Int32) < 0 ∨ cl40.slots.size ≤ ((18 : Int32)).toNatClampNeg) := inb_of aS40 ⟨by decide, by decide⟩
  obtain ⟨T40, h40, X40, e40, W40, st40⟩ := stB X39 hx hZ e39 Ar40 (j := (18 : Int32)) hin40 (g := (mkF m 413 #[.val (.int p1), .val (.int p2), .val (.int p3), .val (.long q4), .second, .val (.long q5), .second, .val (.int (Voff p1)), .val (.int (Vs p1)), .val (.int (Vn p2)), .val (.int (Vd p3)), .unset, .unset, .unset, .unset, .unset] [(.int (F1 (18 : Int32) (Voff p1) (Vs p1) (Vn p2) (Vd p3) q4 q5)), (.int (18 : Int32)), (.ref b2), (.ref b2)])) rfl rfl (hb hby at_413)
  have V40_b2 : Arv Z h40 b2 k2 .byte (27 : Int32) [(.int (nar .byte (F1 (0 : Int32) (Voff p1) (Vs p1) (Vn p2) (Vd p3) q4 q5))), (.int (nar .byte (F1 (1 : Int32) (Voff p1) (Vs p1) (Vn p2) (Vd p3) q4 q5))), (.int (nar .byte (F1 (2 : Int32) (Voff p1) (Vs p1) (Vn p2) (Vd p3) q4 q5))), (.int (nar .byte (F1 (3 : Int32) (Voff p1) (Vs p1) (Vn p2) (Vd p3) q4 q5))), (.int (nar .byte (F1 (4 : Int32) (Voff p1) (Vs p1) (Vn p2) (Vd p3) q4 q5))), (.int (nar .byte (F1 (5 : Int32) (Voff p1) (Vs p1) (Vn p2) (Vd p3) q4 q5))), (.int (nar .byte (F1 (6 : Int32) (Voff p1) (Vs p1) (Vn p2) (Vd p3) q4 q5))), (.int (nar .byte (F1 (7 : Int32) (Voff p1) (Vs p1) (Vn p2) (Vd p3) q4 q5))), (.int (nar .byte (F1 (8 : Int32) (Voff p1) (Vs p1) (Vn p2) (Vd p3) q4 q5))), (.int (nar .byte (F1 (9 : Int32) (Voff p1) (Vs p1) (Vn p2) (Vd p3) q4 q5))), (.int (nar .byte (F1 (10 : Int32) (Voff p1) (Vs p1) (Vn p2) (Vd p3) q4 q5))), (.int (nar .byte (F1 (11 : Int32) (Voff p1) (Vs p1) (Vn p2) (Vd p3) q4 q5))), (.int (nar .byte (F1 (12 : Int32) (Voff p1) (Vs p1) (Vn p2) (Vd p3) q4 q5))), (.int (nar .byte (F1 (13 : Int32) (Voff p1) (Vs p1) (Vn p2) (Vd p3) q4 q5))), (.int (nar .byte (F1 (14 : Int32) (Voff p1) (Vs p1) (Vn p2) (Vd p3) q4 q5))), (.int (nar .byte (F1 (15 : Int32) (Voff p1) (Vs p1) (Vn p2) (Vd p3) q4 q5))), (.int (nar .byte (F1 (16 : Int32) (Voff p1) (Vs p1) (Vn p2) (Vd p3) q4 q5))), (.int (nar .byte (F1 (17 : Int32) (Voff p1) (Vs p1) (Vn p2) (Vd p3) q4 q5))), (.int (nar .byte (F1 (18 : Int32) (Voff p1) (Vs p1) (Vn p2) (Vd p3) q4 q5))), (.int (0 : Int32)), (.int (0 : Int32)), (.int (0 : Int32)), (.int (0 : Int32)), (.int (0 : Int32)), (.int (0 : Int32)), (.int (0 : Int32)), (.int (0 : Int32))] (.int (0 : Int32)) := Arv.set Ar40 aq40 aS40 aN40 aH40 aG40 (fits_nar_byte _) W40 18 rfl (Nat.le_of_ble_eq_true rfl)
  have N40 := Fr.snoc X40 N39 g_b2
  have Z40 := Nat.le_trans Z38 (Keep.of_wr W40).1
  obtain ⟨_, _, ⟨T41, L41, k41, n41⟩, -, X41, ⟨Lc41, hQ41, l41, y41, z41⟩, st41⟩ := Jvm.LawKit.callS X40 hx (y := (⟨"com/example/levelwright/levelwright/BzwShapeIsPlainWholePinLaw", "at", "(IIIIIJJ)B"⟩ : MethodName)) hown (mvT hZ (hw _ (List.mem_of_getElem? (i := 2) rfl))) (mvT hZ (hw _ (List.mem_of_getElem? (i := 3) rfl))) (mvT hZ (hw _ (List.mem_of_getElem? (i := 4) rfl))) (mvT hZ (hw _ (List.mem_of_getElem? (i := 5) rfl))) (by decide) (backOf (W := 3) (rm1 l Z a0 hw [] (19 : Int32) (Voff p1) (Vs p1) (Vn p2) (Vd p3) q4 q5 h40 n0 Z40 ) hZ (hw _ (List.mem_of_getElem? (i := 5) rfl)) (hw _ (List.mem_of_getElem? (i := 4) rfl)) (by decide) (by decide)) (g := (mkF m 430 #[.val (.int p1), .val (.int p2), .val (.int p3), .val (.long q4), .second, .val (.long q5), .second, .val (.int (Voff p1)), .val (.int (Vs p1)), .val (.int (Vn p2)), .val (.int (Vd p3)), .unset, .unset, .unset, .unset, .unset] [(.long q5), (.long q4), (.int (Vd p3)), (.int (Vn p2)), (.int (Vs p1)), (.int (Voff p1)), (.int (19 : Int32)), (.int (19 : Int32)), (.ref b2), (.ref b2)])) rfl (by rw [hml]; rfl) (argsL := [(.int (19 : Int32)), (.int (Voff p1)), (.int (Vs p1)), (.int (Vn p2)), (.int (Vd p3)), (.long q4), (.long q5)]) (rest := [(.int (19 : Int32)), (.ref b2), (.ref b2)]) (lenOf pd_2 rfl) rfl (by show 2 * 0 + _ ≤ _; exact Nat.le_of_eq rfl) (hb hby at_430) (fun _ _ => ⟨rfl, e40, (by decide : 1 + 0 ≤ _), (by decide : 27 + 0 ≤ _)⟩)
  dsimp only [Pt.U, Pt.locs, Pt.cells, Pt.slots] at X41 l41 y41 z41 st41 hQ41
  obtain rfl : k41 = 1 := y41
  obtain rfl : n41 = 27 := z41
  obtain ⟨rfl, N41q, e41⟩ := hQ41
  have N41 : Fr n0 L41 := by rw [l41]; exact Fr.app N40 N41q
  obtain ⟨cl42, Ar42, aq42, aS42, aN42, aH42, aG42⟩ := id V40_b2
  have hin42 : ¬ ((19 : Int32) < 0 ∨ cl42.slots.size ≤ ((19 : Int32)).toNatClampNeg) := inb_of aS42 ⟨by decide, by decide⟩
  obtain ⟨T42, h42, X42, e42, W42, st42⟩ := stB X41 hx hZ e41 Ar42 (j := (19 : Int32)) hin42 (g := (mkF m 433 #[.val (.int p1), .val (.int p2), .val (.int p3), .val (.long q4), .second, .val (.long q5), .second, .val (.int (Voff p1)), .val (.int (Vs p1)), .val (.int (Vn p2)), .val (.int (Vd p3)), .unset, .unset, .unset, .unset, .unset] [(.int (F1 (19 : Int32) (Voff p1) (Vs p1) (Vn p2) (Vd p3) q4 q5)), (.int (19 : Int32)), (.ref b2), (.ref b2)])) rfl rfl (hb hby at_433)
  have V42_b2 : Arv Z h42 b2 k2 .byte (27 : Int32) [(.int (nar .byte (F1 (0 : Int32) (Voff p1) (Vs p1) (Vn p2) (Vd p3) q4 q5))), (.int (nar .byte (F1 (1 : Int32) (Voff p1) (Vs p1) (Vn p2) (Vd p3) q4 q5))), (.int (nar .byte (F1 (2 : Int32) (Voff p1) (Vs p1) (Vn p2) (Vd p3) q4 q5))), (.int (nar .byte (F1 (3 : Int32) (Voff p1) (Vs p1) (Vn p2) (Vd p3) q4 q5))), (.int (nar .byte (F1 (4 : Int32) (Voff p1) (Vs p1) (Vn p2) (Vd p3) q4 q5))), (.int (nar .byte (F1 (5 : Int32) (Voff p1) (Vs p1) (Vn p2) (Vd p3) q4 q5))), (.int (nar .byte (F1 (6 : Int32) (Voff p1) (Vs p1) (Vn p2) (Vd p3) q4 q5))), (.int (nar .byte (F1 (7 : Int32) (Voff p1) (Vs p1) (Vn p2) (Vd p3) q4 q5))), (.int (nar .byte (F1 (8 : Int32) (Voff p1) (Vs p1) (Vn p2) (Vd p3) q4 q5))), (.int (nar .byte (F1 (9 : Int32) (Voff p1) (Vs p1) (Vn p2) (Vd p3) q4 q5))), (.int (nar .byte (F1 (10 : Int32) (Voff p1) (Vs p1) (Vn p2) (Vd p3) q4 q5))), (.int (nar .byte (F1 (11 : Int32) (Voff p1) (Vs p1) (Vn p2) (Vd p3) q4 q5))), (.int (nar .byte (F1 (12 : Int32) (Voff p1) (Vs p1) (Vn p2) (Vd p3) q4 q5))), (.int (nar .byte (F1 (13 : Int32) (Voff p1) (Vs p1) (Vn p2) (Vd p3) q4 q5))), (.int (nar .byte (F1 (14 : Int32) (Voff p1) (Vs p1) (Vn p2) (Vd p3) q4 q5))), (.int (nar .byte (F1 (15 : Int32) (Voff p1) (Vs p1) (Vn p2) (Vd p3) q4 q5))), (.int (nar .byte (F1 (16 : Int32) (Voff p1) (Vs p1) (Vn p2) (Vd p3) q4 q5))), (.int (nar .byte (F1 (17 : Int32) (Voff p1) (Vs p1) (Vn p2) (Vd p3) q4 q5))), (.int (nar .byte (F1 (18 : Int32) (Voff p1) (Vs p1) (Vn p2) (Vd p3) q4 q5))), (.int (nar .byte (F1 (19 : Int32) (Voff p1) (Vs p1) (Vn p2) (Vd p3) q4 q5))), (.int (0 : Int32)), (.int (0 : Int32)), (.int (0 : Int32)), (.int (0 : Int32)), (.int (0 : Int32)), (.int (0 : Int32)), (.int (0 : Int32))] (.int (0 : Int32)) := Arv.set Ar42 aq42 aS42 aN42 aH42 aG42 (fits_nar_byte _) W42 19 rfl (Nat.le_of_ble_eq_true rfl)
  have N42 := Fr.snoc X42 N41 g_b2
  have Z42 := Nat.le_trans Z40 (Keep.of_wr W42).1
  obtain ⟨_, _, ⟨T43, L43, k43, n43⟩, -, X43, ⟨Lc43, hQ43, l43, y43, z43⟩, st43⟩ := Jvm.LawKit.callS X42 hx (y := (⟨"com/example/levelwright/levelwright/BzwShapeIsPlainWholePinLaw", "at", "(IIIIIJJ)B"⟩ : MethodName)) hown (mvT hZ (hw _ (List.mem_of_getElem? (i := 2) rfl))) (mvT hZ (hw _ (List.mem_of_getElem? (i := 3) rfl))) (mvT hZ (hw _ (List.mem_of_getElem? (i := 4) rfl))) (mvT hZ (hw _ (List.mem_of_getElem? (i := 5) rfl))) (by decide) (backOf (W := 3) (rm1 l Z a0 hw [] (20 : Int32) (Voff p1) (Vs p1) (Vn p2) (Vd p3) q4 q5 h42 n0 Z42 ) hZ (hw _ (List.mem_of_getElem? (i := 5) rfl)) (hw _ (List.mem_of_getElem? (i := 4) rfl)) (by decide) (by decide)) (g := (mkF m 450 #[.val (.int p1), .val (.int p2), .val (.int p3), .val (.long q4), .second, .val (.long q5), .second, .val (.int (Voff p1)), .val (.int (Vs p1)), .val (.int (Vn p2)), .val (.int (Vd p3)), .unset, .unset, .unset, .unset, .unset] [(.long q5), (.long q4), (.int (Vd p3)), (.int (Vn p2)), (.int (Vs p1)), (.int (Voff p1)), (.int (20 : Int32)), (.int (20 : Int32)), (.ref b2), (.ref b2)])) rfl (by rw [hml]; rfl) (argsL := [(.int (20 : Int32)), (.int (Voff p1)), (.int (Vs p1)), (.int (Vn p2)), (.int (Vd p3)), (.long q4), (.long q5)]) (rest := [(.int (20 : Int32)), (.ref b2), (.ref b2)]) (lenOf pd_2 rfl) rfl (by show 2 * 0 + _ ≤ _; exact Nat.le_of_eq rfl) (hb hby at_450) (fun _ _ => ⟨rfl, e42, (by decide : 1 + 0 ≤ _), (by decide : 27 + 0 ≤ _)⟩)
  dsimp only [Pt.U, Pt.locs, Pt.cells, Pt.slots] at X43 l43 y43 z43 st43 hQ43
  obtain rfl : k43 = 1 := y43
  obtain rfl : n43 = 27 := z43
  obtain ⟨rfl, N43q, e43⟩ := hQ43
  have N43 : Fr n0 L43 := by rw [l43]; exact Fr.app N42 N43q
  obtain ⟨cl44, Ar44, aq44, aS44, aN44, aH44, aG44⟩ := id V42_b2
  have hin44 : ¬ ((20 : Int32) < 0 ∨ cl44.slots.size ≤ ((20 : Int32)).toNatClampNeg) := inb_of aS44 ⟨by decide, by decide⟩
  obtain ⟨T44, h44, X44, e44, W44, st44⟩ := stB X43 hx hZ e43 Ar44 (j := (20 : Int32)) hin44 (g := (mkF m 453 #[.val (.int p1), .val (.int p2), .val (.int p3), .val (.long q4), .second, .val (.long q5), .second, .val (.int (Voff p1)), .val (.int (Vs p1)), .val (.int (Vn p2)), .val (.int (Vd p3)), .unset, .unset, .unset, .unset, .unset] [(.int (F1 (20 : Int32) (Voff p1) (Vs p1) (Vn p2) (Vd p3) q4 q5)), (.int (20 : Int32)), (.ref b2), (.ref b2)])) rfl rfl (hb hby at_453)
  have V44_b2 : Arv Z h44 b2 k2 .byte (27 : Int32) [(.int (nar .byte (F1 (0 : Int32) (Voff p1) (Vs p1) (Vn p2) (Vd p3) q4 q5))), (.int (nar .byte (F1 (1 : Int32) (Voff p1) (Vs p1) (Vn p2) (Vd p3) q4 q5))), (.int (nar .byte (F1 (2 : Int32) (Voff p1) (Vs p1) (Vn p2) (Vd p3) q4 q5))), (.int (nar .byte (F1 (3 : Int32) (Voff p1) (Vs p1) (Vn p2) (Vd p3) q4 q5))), (.int (nar .byte (F1 (4 : Int32) (Voff p1) (Vs p1) (Vn p2) (Vd p3) q4 q5))), (.int (nar .byte (F1 (5 : Int32) (Voff p1) (Vs p1) (Vn p2) (Vd p3) q4 q5))), (.int (nar .byte (F1 (6 : Int32) (Voff p1) (Vs p1) (Vn p2) (Vd p3) q4 q5))), (.int (nar .byte (F1 (7 : Int32) (Voff p1) (Vs p1) (Vn p2) (Vd p3) q4 q5))), (.int (nar .byte (F1 (8 : Int32) (Voff p1) (Vs p1) (Vn p2) (Vd p3) q4 q5))), (.int (nar .byte (F1 (9 : Int32) (Voff p1) (Vs p1) (Vn p2) (Vd p3) q4 q5))), (.int (nar .byte (F1 (10 : Int32) (Voff p1) (Vs p1) (Vn p2) (Vd p3) q4 q5))), (.int (nar .byte (F1 (11 : Int32) (Voff p1) (Vs p1) (Vn p2) (Vd p3) q4 q5))), (.int (nar .byte (F1 (12 : Int32) (Voff p1) (Vs p1) (Vn p2) (Vd p3) q4 q5))), (.int (nar .byte (F1 (13 : Int32) (Voff p1) (Vs p1) (Vn p2) (Vd p3) q4 q5))), (.int (nar .byte (F1 (14 : Int32) (Voff p1) (Vs p1) (Vn p2) (Vd p3) q4 q5))), (.int (nar .byte (F1 (15 : Int32) (Voff p1) (Vs p1) (Vn p2) (Vd p3) q4 q5))), (.int (nar .byte (F1 (16 : Int32) (Voff p1) (Vs p1) (Vn p2) (Vd p3) q4 q5))), (.int (nar .byte (F1 (17 : Int32) (Voff p1) (Vs p1) (Vn p2) (Vd p3) q4 q5))), (.int (nar .byte (F1 (18 : Int32) (Voff p1) (Vs p1) (Vn p2) (Vd p3) q4 q5))), (.int (nar .byte (F1 (19 : Int32) (Voff p1) (Vs p1) (Vn p2) (Vd p3) q4 q5))), (.int (nar .byte (F1 (20 : Int32) (Voff p1) (Vs p1) (Vn p2) (Vd p3) q4 q5))), (.int (0 : Int32)), (.int (0 : Int32)), (.int (0 : Int32)), (.int (0 : Int32)), (.int (0 : Int32)), (.int (0 : Int32))] (.int (0 : Int32)) := Arv.set Ar44 aq44 aS44 aN44 aH44 aG44 (fits_nar_byte _) W44 20 rfl (Nat.le_of_ble_eq_true rfl)
  have N44 := Fr.snoc X44 N43 g_b2
  have Z44 := Nat.le_trans Z42 (Keep.of_wr W44).1
  obtain ⟨_, _, ⟨T45, L45, k45, n45⟩, -, X45, ⟨Lc45, hQ45, l45, y45, z45⟩, st45⟩ := Jvm.LawKit.callS X44 hx (y := (⟨"com/example/levelwright/levelwright/BzwShapeIsPlainWholePinLaw", "at", "(IIIIIJJ)B"⟩ : MethodName)) hown (mvT hZ (hw _ (List.mem_of_getElem? (i := 2) rfl))) (mvT hZ (hw _ (List.mem_of_getElem? (i := 3) rfl))) (mvT hZ (hw _ (List.mem_of_getElem? (i := 4) rfl))) (mvT hZ (hw _ (List.mem_of_getElem? (i := 5) rfl))) (by decide) (backOf (W := 3) (rm1 l Z a0 hw [] (21 : Int32) (Voff p1) (Vs p1) (Vn p2) (Vd p3) q4 q5 h44 n0 Z44 ) hZ (hw _ (List.mem_of_getElem? (i := 5) rfl)) (hw _ (List.mem_of_getElem? (i := 4) rfl)) (by decide) (by decide)) (g := (mkF m 470 #[.val (.int p1), .val (.int p2), .val (.int p3), .val (.long q4), .second, .val (.long q5), .second, .val (.int (Voff p1)), .val (.int (Vs p1)), .val (.int (Vn p2)), .val (.int (Vd p3)), .unset, .unset, .unset, .unset, .unset] [(.long q5), (.long q4), (.int (Vd p3)), (.int (Vn p2)), (.int (Vs p1)), (.int (Voff p1)), (.int (21 : Int32)), (.int (21 : Int32)), (.ref b2), (.ref b2)])) rfl (by rw [hml]; rfl) (argsL := [(.int (21 : Int32)), (.int (Voff p1)), (.int (Vs p1)), (.int (Vn p2)), (.int (Vd p3)), (.long q4), (.long q5)]) (rest := [(.int (21 : Int32)), (.ref b2), (.ref b2)]) (lenOf pd_2 rfl) rfl (by show 2 * 0 + _ ≤ _; exact Nat.le_of_eq rfl) (hb hby at_470) (fun _ _ => ⟨rfl, e44, (by decide : 1 + 0 ≤ _), (by decide : 27 + 0 ≤ _)⟩)
  dsimp only [Pt.U, Pt.locs, Pt.cells, Pt.slots] at X45 l45 y45 z45 st45 hQ45
  obtain rfl : k45 = 1 := y45
  obtain rfl : n45 = 27 := z45
  obtain ⟨rfl, N45q, e45⟩ := hQ45
  have N45 : Fr n0 L45 := by rw [l45]; exact Fr.app N44 N45q
  obtain ⟨cl46, Ar46, aq46, aS46, aN46, aH46, aG46⟩ := id V44_b2
  have hin46 : ¬ ((21 : Int32) < 0 ∨ cl46.slots.size ≤ ((21 : Int32)).toNatClampNeg) := inb_of aS46 ⟨by decide, by decide⟩
  obtain ⟨T46, h46, X46, e46, W46, st46⟩ := stB X45 hx hZ e45 Ar46 (j := (21 : Int32)) hin46 (g := (mkF m 473 #[.val (.int p1), .val (.int p2), .val (.int p3), .val (.long q4), .second, .val (.long q5), .second, .val (.int (Voff p1)), .val (.int (Vs p1)), .val (.int (Vn p2)), .val (.int (Vd p3)), .unset, .unset, .unset, .unset, .unset] [(.int (F1 (21 : Int32) (Voff p1) (Vs p1) (Vn p2) (Vd p3) q4 q5)), (.int (21 : Int32)), (.ref b2), (.ref b2)])) rfl rfl (hb hby at_473)
  have V46_b2 : Arv Z h46 b2 k2 .byte (27 : Int32) [(.int (nar .byte (F1 (0 : Int32) (Voff p1) (Vs p1) (Vn p2) (Vd p3) q4 q5))), (.int (nar .byte (F1 (1 : Int32) (Voff p1) (Vs p1) (Vn p2) (Vd p3) q4 q5))), (.int (nar .byte (F1 (2 : Int32) (Voff p1) (Vs p1) (Vn p2) (Vd p3) q4 q5))), (.int (nar .byte (F1 (3 : Int32) (Voff p1) (Vs p1) (Vn p2) (Vd p3) q4 q5))), (.int (nar .byte (F1 (4 : Int32) (Voff p1) (Vs p1) (Vn p2) (Vd p3) q4 q5))), (.int (nar .byte (F1 (5 : Int32) (Voff p1) (Vs p1) (Vn p2) (Vd p3) q4 q5))), (.int (nar .byte (F1 (6 : Int32) (Voff p1) (Vs p1) (Vn p2) (Vd p3) q4 q5))), (.int (nar .byte (F1 (7 : Int32) (Voff p1) (Vs p1) (Vn p2) (Vd p3) q4 q5))), (.int (nar .byte (F1 (8 : Int32) (Voff p1) (Vs p1) (Vn p2) (Vd p3) q4 q5))), (.int (nar .byte (F1 (9 : Int32) (Voff p1) (Vs p1) (Vn p2) (Vd p3) q4 q5))), (.int (nar .byte (F1 (10 : Int32) (Voff p1) (Vs p1) (Vn p2) (Vd p3) q4 q5))), (.int (nar .byte (F1 (11 : Int32) (Voff p1) (Vs p1) (Vn p2) (Vd p3) q4 q5))), (.int (nar .byte (F1 (12 : Int32) (Voff p1) (Vs p1) (Vn p2) (Vd p3) q4 q5))), (.int (nar .byte (F1 (13 : Int32) (Voff p1) (Vs p1) (Vn p2) (Vd p3) q4 q5))), (.int (nar .byte (F1 (14 : Int32) (Voff p1) (Vs p1) (Vn p2) (Vd p3) q4 q5))), (.int (nar .byte (F1 (15 : Int32) (Voff p1) (Vs p1) (Vn p2) (Vd p3) q4 q5))), (.int (nar .byte (F1 (16 : Int32) (Voff p1) (Vs p1) (Vn p2) (Vd p3) q4 q5))), (.int (nar .byte (F1 (17 : Int32) (Voff p1) (Vs p1) (Vn p2) (Vd p3) q4 q5))), (.int (nar .byte (F1 (18 : Int32) (Voff p1) (Vs p1) (Vn p2) (Vd p3) q4 q5))), (.int (nar .byte (F1 (19 : Int32) (Voff p1) (Vs p1) (Vn p2) (Vd p3) q4 q5))), (.int (nar .byte (F1 (20 : Int32) (Voff p1) (Vs p1) (Vn p2) (Vd p3) q4 q5))), (.int (nar .byte (F1 (21 : Int32) (Voff p1) (Vs p1) (Vn p2) (Vd p3) q4 q5))), (.int (0 : Int32)), (.int (0 : Int32)), (.int (0 : Int32)), (.int (0 : Int32)), (.int (0 : Int32))] (.int (0 : Int32)) := Arv.set Ar46 aq46 aS46 aN46 aH46 aG46 (fits_nar_byte _) W46 21 rfl (Nat.le_of_ble_eq_true rfl)
  have N46 := Fr.snoc X46 N45 g_b2
  have Z46 := Nat.le_trans Z44 (Keep.of_wr W46).1
  obtain ⟨_, _, ⟨T47, L47, k47, n47⟩, -, X47, ⟨Lc47, hQ47, l47, y47, z47⟩, st47⟩ := Jvm.LawKit.callS X46 hx (y := (⟨"com/example/levelwright/levelwright/BzwShapeIsPlainWholePinLaw", "at", "(IIIIIJJ)B"⟩ : MethodName)) hown (mvT hZ (hw _ (List.mem_of_getElem? (i := 2) rfl))) (mvT hZ (hw _ (List.mem_of_getElem? (i := 3) rfl))) (mvT hZ (hw _ (List.mem_of_getElem? (i := 4) rfl))) (mvT hZ (hw _ (List.mem_of_getElem? (i := 5) rfl))) (by decide) (backOf (W := 3) (rm1 l Z a0 hw [] (22 : Int32) (Voff p1) (Vs p1) (Vn p2) (Vd p3) q4 q5 h46 n0 Z46 ) hZ (hw _ (List.mem_of_getElem? (i := 5) rfl)) (hw _ (List.mem_of_getElem? (i := 4) rfl)) (by decide) (by decide)) (g := (mkF m 490 #[.val (.int p1), .val (.int p2), .val (.int p3), .val (.long q4), .second, .val (.long q5), .second, .val (.int (Voff p1)), .val (.int (Vs p1)), .val (.int (Vn p2)), .val (.int (Vd p3)), .unset, .unset, .unset, .unset, .unset] [(.long q5), (.long q4), (.int (Vd p3)), (.int (Vn p2)), (.int (Vs p1)), (.int (Voff p1)), (.int (22 : Int32)), (.int (22 : Int32)), (.ref b2), (.ref b2)])) rfl (by rw [hml]; rfl) (argsL := [(.int (22 : Int32)), (.int (Voff p1)), (.int (Vs p1)), (.int (Vn p2)), (.int (Vd p3)), (.long q4), (.long q5)]) (rest := [(.int (22 : Int32)), (.ref b2), (.ref b2)]) (lenOf pd_2 rfl) rfl (by show 2 * 0 + _ ≤ _; exact Nat.le_of_eq rfl) (hb hby at_490) (fun _ _ => ⟨rfl, e46, (by decide : 1 + 0 ≤ _), (by decide : 27 + 0 ≤ _)⟩)
  dsimp only [Pt.U, Pt.locs, Pt.cells, Pt.slots] at X47 l47 y47 z47 st47 hQ47
  obtain rfl : k47 = 1 := y47
  obtain rfl : n47 = 27 := z47
  obtain ⟨rfl, N47q, e47⟩ := hQ47
  have N47 : Fr n0 L47 := by rw [l47]; exact Fr.app N46 N47q
  obtain ⟨cl48, Ar48, aq48, aS48, aN48, aH48, aG48⟩ := id V46_b2
  have hin48 : ¬ ((22 : Int32) < 0 ∨ cl48.slots.size ≤ ((22 : Int32)).toNatClampNeg) := inb_of aS48 ⟨by decide, by decide⟩
  obtain ⟨T48, h48, X48, e48, W48, st48⟩ := stB X47 hx hZ e47 Ar48 (j := (22 : Int32)) hin48 (g := (mkF m 493 #[.val (.int p1), .val (.int p2), .val (.int p3), .val (.long q4), .second, .val (.long q5), .second, .val (.int (Voff p1)), .val (.int (Vs p1)), .val (.int (Vn p2)), .val (.int (Vd p3)), .unset, .unset, .unset, .unset, .unset] [(.int (F1 (22 : Int32) (Voff p1) (Vs p1) (Vn p2) (Vd p3) q4 q5)), (.int (22 : Int32)), (.ref b2), (.ref b2)])) rfl rfl (hb hby at_493)
  have V48_b2 : Arv Z h48 b2 k2 .byte (27 : Int32) [(.int (nar .byte (F1 (0 : Int32) (Voff p1) (Vs p1) (Vn p2) (Vd p3) q4 q5))), (.int (nar .byte (F1 (1 : Int32) (Voff p1) (Vs p1) (Vn p2) (Vd p3) q4 q5))), (.int (nar .byte (F1 (2 : Int32) (Voff p1) (Vs p1) (Vn p2) (Vd p3) q4 q5))), (.int (nar .byte (F1 (3 : Int32) (Voff p1) (Vs p1) (Vn p2) (Vd p3) q4 q5))), (.int (nar .byte (F1 (4 : Int32) (Voff p1) (Vs p1) (Vn p2) (Vd p3) q4 q5))), (.int (nar .byte (F1 (5 : Int32) (Voff p1) (Vs p1) (Vn p2) (Vd p3) q4 q5))), (.int (nar .byte (F1 (6 : Int32) (Voff p1) (Vs p1) (Vn p2) (Vd p3) q4 q5))), (.int (nar .byte (F1 (7 : Int32) (Voff p1) (Vs p1) (Vn p2) (Vd p3) q4 q5))), (.int (nar .byte (F1 (8 : Int32) (Voff p1) (Vs p1) (Vn p2) (Vd p3) q4 q5))), (.int (nar .byte (F1 (9 : Int32) (Voff p1) (Vs p1) (Vn p2) (Vd p3) q4 q5))), (.int (nar .byte (F1 (10 : Int32) (Voff p1) (Vs p1) (Vn p2) (Vd p3) q4 q5))), (.int (nar .byte (F1 (11 : Int32) (Voff p1) (Vs p1) (Vn p2) (Vd p3) q4 q5))), (.int (nar .byte (F1 (12 : Int32) (Voff p1) (Vs p1) (Vn p2) (Vd p3) q4 q5))), (.int (nar .byte (F1 (13 : Int32) (Voff p1) (Vs p1) (Vn p2) (Vd p3) q4 q5))), (.int (nar .byte (F1 (14 : Int32) (Voff p1) (Vs p1) (Vn p2) (Vd p3) q4 q5))), (.int (nar .byte (F1 (15 : Int32) (Voff p1) (Vs p1) (Vn p2) (Vd p3) q4 q5))), (.int (nar .byte (F1 (16 : Int32) (Voff p1) (Vs p1) (Vn p2) (Vd p3) q4 q5))), (.int (nar .byte (F1 (17 : Int32) (Voff p1) (Vs p1) (Vn p2) (Vd p3) q4 q5))), (.int (nar .byte (F1 (18 : Int32) (Voff p1) (Vs p1) (Vn p2) (Vd p3) q4 q5))), (.int (nar .byte (F1 (19 : Int32) (Voff p1) (Vs p1) (Vn p2) (Vd p3) q4 q5))), (.int (nar .byte (F1 (20 : Int32) (Voff p1) (Vs p1) (Vn p2) (Vd p3) q4 q5))), (.int (nar .byte (F1 (21 : Int32) (Voff p1) (Vs p1) (Vn p2) (Vd p3) q4 q5))), (.int (nar .byte (F1 (22 : Int32) (Voff p1) (Vs p1) (Vn p2) (Vd p3) q4 q5))), (.int (0 : Int32)), (.int (0 : Int32)), (.int (0 : Int32)), (.int (0 : Int32))] (.int (0 : Int32)) := Arv.set Ar48 aq48 aS48 aN48 aH48 aG48 (fits_nar_byte _) W48 22 rfl (Nat.le_of_ble_eq_true rfl)
  have N48 := Fr.snoc X48 N47 g_b2
  have Z48 := Nat.le_trans Z46 (Keep.of_wr W48).1
  obtain ⟨_, _, ⟨T49, L49, k49, n49⟩, -, X49, ⟨Lc49, hQ49, l49, y49, z49⟩, st49⟩ := Jvm.LawKit.callS X48 hx (y := (⟨"com/example/levelwright/levelwright/BzwShapeIsPlainWholePinLaw", "at", "(IIIIIJJ)B"⟩ : MethodName)) hown (mvT hZ (hw _ (List.mem_of_getElem? (i := 2) rfl))) (mvT hZ (hw _ (List.mem_of_getElem? (i := 3) rfl))) (mvT hZ (hw _ (List.mem_of_getElem? (i := 4) rfl))) (mvT hZ (hw _ (List.mem_of_getElem? (i := 5) rfl))) (by decide) (backOf (W := 3) (rm1 l Z a0 hw [] (23 : Int32) (Voff p1) (Vs p1) (Vn p2) (Vd p3) q4 q5 h48 n0 Z48 ) hZ (hw _ (List.mem_of_getElem? (i := 5) rfl)) (hw _ (List.mem_of_getElem? (i := 4) rfl)) (by decide) (by decide)) (g := (mkF m 510 #[.val (.int p1), .val (.int p2), .val (.int p3), .val (.long q4), .second, .val (.long q5), .second, .val (.int (Voff p1)), .val (.int (Vs p1)), .val (.int (Vn p2)), .val (.int (Vd p3)), .unset, .unset, .unset, .unset, .unset] [(.long q5), (.long q4), (.int (Vd p3)), (.int (Vn p2)), (.int (Vs p1)), (.int (Voff p1)), (.int (23 : Int32)), (.int (23 : Int32)), (.ref b2), (.ref b2)])) rfl (by rw [hml]; rfl) (argsL := [(.int (23 : Int32)), (.int (Voff p1)), (.int (Vs p1)), (.int (Vn p2)), (.int (Vd p3)), (.long q4), (.long q5)]) (rest := [(.int (23 : Int32)), (.ref b2), (.ref b2)]) (lenOf pd_2 rfl) rfl (by show 2 * 0 + _ ≤ _; exact Nat.le_of_eq rfl) (hb hby at_510) (fun _ _ => ⟨rfl, e48, (by decide : 1 + 0 ≤ _), (by decide : 27 + 0 ≤ _)⟩)
  dsimp only [Pt.U, Pt.locs, Pt.cells, Pt.slots] at X49 l49 y49 z49 st49 hQ49
  obtain rfl : k49 = 1 := y49
  obtain rfl : n49 = 27 := z49
  obtain ⟨rfl, N49q, e49⟩ := hQ49
  have N49 : Fr n0 L49 := by rw [l49]; exact Fr.app N48 N49q
  obtain ⟨cl50, Ar50, aq50, aS50, aN50, aH50, aG50⟩ := id V48_b2
  have hin50 : ¬ ((23 : Int32) < 0 ∨ cl50.slots.size ≤ ((23 : Int32)).toNatClampNeg) := inb_of aS50 ⟨by decide, by decide⟩
  obtain ⟨T50, h50, X50, e50, W50, st50⟩ := stB X49 hx hZ e49 Ar50 (j := (23 : Int32)) hin50 (g := (mkF m 513 #[.val (.int p1), .val (.int p2), .val (.int p3), .val (.long q4), .second, .val (.long q5), .second, .val (.int (Voff p1)), .val (.int (Vs p1)), .val (.int (Vn p2)), .val (.int (Vd p3)), .unset, .unset, .unset, .unset, .unset] [(.int (F1 (23 : Int32) (Voff p1) (Vs p1) (Vn p2) (Vd p3) q4 q5)), (.int (23 : Int32)), (.ref b2), (.ref b2)])) rfl rfl (hb hby at_513)
  have V50_b2 : Arv Z h50 b2 k2 .byte (27 : Int32) [(.int (nar .byte (F1 (0 : Int32) (Voff p1) (Vs p1) (Vn p2) (Vd p3) q4 q5))), (.int (nar .byte (F1 (1 : Int32) (Voff p1) (Vs p1) (Vn p2) (Vd p3) q4 q5))), (.int (nar .byte (F1 (2 : Int32) (Voff p1) (Vs p1) (Vn p2) (Vd p3) q4 q5))), (.int (nar .byte (F1 (3 : Int32) (Voff p1) (Vs p1) (Vn p2) (Vd p3) q4 q5))), (.int (nar .byte (F1 (4 : Int32) (Voff p1) (Vs p1) (Vn p2) (Vd p3) q4 q5))), (.int (nar .byte (F1 (5 : Int32) (Voff p1) (Vs p1) (Vn p2) (Vd p3) q4 q5))), (.int (nar .byte (F1 (6 : Int32) (Voff p1) (Vs p1) (Vn p2) (Vd p3) q4 q5))), (.int (nar .byte (F1 (7 : Int32) (Voff p1) (Vs p1) (Vn p2) (Vd p3) q4 q5))), (.int (nar .byte (F1 (8 : Int32) (Voff p1) (Vs p1) (Vn p2) (Vd p3) q4 q5))), (.int (nar .byte (F1 (9 : Int32) (Voff p1) (Vs p1) (Vn p2) (Vd p3) q4 q5))), (.int (nar .byte (F1 (10 : Int32) (Voff p1) (Vs p1) (Vn p2) (Vd p3) q4 q5))), (.int (nar .byte (F1 (11 : Int32) (Voff p1) (Vs p1) (Vn p2) (Vd p3) q4 q5))), (.int (nar .byte (F1 (12 : Int32) (Voff p1) (Vs p1) (Vn p2) (Vd p3) q4 q5))), (.int (nar .byte (F1 (13 : Int32) (Voff p1) (Vs p1) (Vn p2) (Vd p3) q4 q5))), (.int (nar .byte (F1 (14 : Int32) (Voff p1) (Vs p1) (Vn p2) (Vd p3) q4 q5))), (.int (nar .byte (F1 (15 : Int32) (Voff p1) (Vs p1) (Vn p2) (Vd p3) q4 q5))), (.int (nar .byte (F1 (16 : Int32) (Voff p1) (Vs p1) (Vn p2) (Vd p3) q4 q5))), (.int (nar .byte (F1 (17 : Int32) (Voff p1) (Vs p1) (Vn p2) (Vd p3) q4 q5))), (.int (nar .byte (F1 (18 : Int32) (Voff p1) (Vs p1) (Vn p2) (Vd p3) q4 q5))), (.int (nar .byte (F1 (19 : Int32) (Voff p1) (Vs p1) (Vn p2) (Vd p3) q4 q5))), (.int (nar .byte (F1 (20 : Int32) (Voff p1) (Vs p1) (Vn p2) (Vd p3) q4 q5))), (.int (nar .byte (F1 (21 : Int32) (Voff p1) (Vs p1) (Vn p2) (Vd p3) q4 q5))), (.int (nar .byte (F1 (22 : Int32) (Voff p1) (Vs p1) (Vn p2) (Vd p3) q4 q5))), (.int (nar .byte (F1 (23 : Int32) (Voff p1) (Vs p1) (Vn p2) (Vd p3) q4 q5))), (.int (0 : Int32)), (.int (0 : Int32)), (.int (0 : Int32))] (.int (0 : Int32)) := Arv.set Ar50 aq50 aS50 aN50 aH50 aG50 (fits_nar_byte _) W50 23 rfl (Nat.le_of_ble_eq_true rfl)
  have N50 := Fr.snoc X50 N49 g_b2
  have Z50 := Nat.le_trans Z48 (Keep.of_wr W50).1
  obtain ⟨_, _, ⟨T51, L51, k51, n51⟩, -, X51, ⟨Lc51, hQ51, l51, y51, z51⟩, st51⟩ := Jvm.LawKit.callS X50 hx (y := (⟨"com/example/levelwright/levelwright/BzwShapeIsPlainWholePinLaw", "at", "(IIIIIJJ)B"⟩ : MethodName)) hown (mvT hZ (hw _ (List.mem_of_getElem? (i := 2) rfl))) (mvT hZ (hw _ (List.mem_of_getElem? (i := 3) rfl))) (mvT hZ (hw _ (List.mem_of_getElem? (i := 4) rfl))) (mvT hZ (hw _ (List.mem_of_getElem? (i := 5) rfl))) (by decide) (backOf (W := 3) (rm1 l Z a0 hw [] (24 : Int32) (Voff p1) (Vs p1) (Vn p2) (Vd p3) q4 q5 h50 n0 Z50 ) hZ (hw _ (List.mem_of_getElem? (i := 5) rfl)) (hw _ (List.mem_of_getElem? (i := 4) rfl)) (by decide) (by decide)) (g := (mkF m 530 #[.val (.int p1), .val (.int p2), .val (.int p3), .val (.long q4), .second, .val (.long q5), .second, .val (.int (Voff p1)), .val (.int (Vs p1)), .val (.int (Vn p2)), .val (.int (Vd p3)), .unset, .unset, .unset, .unset, .unset] [(.long q5), (.long q4), (.int (Vd p3)), (.int (Vn p2)), (.int (Vs p1)), (.int (Voff p1)), (.int (24 : Int32)), (.int (24 : Int32)), (.ref b2), (.ref b2)])) rfl (by rw [hml]; rfl) (argsL := [(.int (24 : Int32)), (.int (Voff p1)), (.int (Vs p1)), (.int (Vn p2)), (.int (Vd p3)), (.long q4), (.long q5)]) (rest := [(.int (24 : Int32)), (.ref b2), (.ref b2)]) (lenOf pd_2 rfl) rfl (by show 2 * 0 + _ ≤ _; exact Nat.le_of_eq rfl) (hb hby at_530) (fun _ _ => ⟨rfl, e50, (by decide : 1 + 0 ≤ _), (by decide : 27 + 0 ≤ _)⟩)
  dsimp only [Pt.U, Pt.locs, Pt.cells, Pt.slots] at X51 l51 y51 z51 st51 hQ51
  obtain rfl : k51 = 1 := y51
  obtain rfl : n51 = 27 := z51
  obtain ⟨rfl, N51q, e51⟩ := hQ51
  have N51 : Fr n0 L51 := by rw [l51]; exact Fr.app N50 N51q
  obtain ⟨cl52, Ar52, aq52, aS52, aN52, aH52, aG52⟩ := id V50_b2
  have hin52 : ¬ ((24 : Int32) < 0 ∨ cl52.slots.size ≤ ((24 : Int32)).toNatClampNeg) := inb_of aS52 ⟨by decide, by decide⟩
  obtain ⟨T52, h52, X52, e52, W52, st52⟩ := stB X51 hx hZ e51 Ar52 (j := (24 : Int32)) hin52 (g := (mkF m 533 #[.val (.int p1), .val (.int p2), .val (.int p3), .val (.long q4), .second, .val (.long q5), .second, .val (.int (Voff p1)), .val (.int (Vs p1)), .val (.int (Vn p2)), .val (.int (Vd p3)), .unset, .unset, .unset, .unset, .unset] [(.int (F1 (24 : Int32) (Voff p1) (Vs p1) (Vn p2) (Vd p3) q4 q5)), (.int (24 : Int32)), (.ref b2), (.ref b2)])) rfl rfl (hb hby at_533)
  have V52_b2 : Arv Z h52 b2 k2 .byte (27 : Int32) [(.int (nar .byte (F1 (0 : Int32) (Voff p1) (Vs p1) (Vn p2) (Vd p3) q4 q5))), (.int (nar .byte (F1 (1 : Int32) (Voff p1) (Vs p1) (Vn p2) (Vd p3) q4 q5))), (.int (nar .byte (F1 (2 : Int32) (Voff p1) (Vs p1) (Vn p2) (Vd p3) q4 q5))), (.int (nar .byte (F1 (3 : Int32) (Voff p1) (Vs p1) (Vn p2) (Vd p3) q4 q5))), (.int (nar .byte (F1 (4 : Int32) (Voff p1) (Vs p1) (Vn p2) (Vd p3) q4 q5))), (.int (nar .byte (F1 (5 : Int32) (Voff p1) (Vs p1) (Vn p2) (Vd p3) q4 q5))), (.int (nar .byte (F1 (6 : Int32) (Voff p1) (Vs p1) (Vn p2) (Vd p3) q4 q5))), (.int (nar .byte (F1 (7 : Int32) (Voff p1) (Vs p1) (Vn p2) (Vd p3) q4 q5))), (.int (nar .byte (F1 (8 : Int32) (Voff p1) (Vs p1) (Vn p2) (Vd p3) q4 q5))), (.int (nar .byte (F1 (9 : Int32) (Voff p1) (Vs p1) (Vn p2) (Vd p3) q4 q5))), (.int (nar .byte (F1 (10 : Int32) (Voff p1) (Vs p1) (Vn p2) (Vd p3) q4 q5))), (.int (nar .byte (F1 (11 : Int32) (Voff p1) (Vs p1) (Vn p2) (Vd p3) q4 q5))), (.int (nar .byte (F1 (12 : Int32) (Voff p1) (Vs p1) (Vn p2) (Vd p3) q4 q5))), (.int (nar .byte (F1 (13 : Int32) (Voff p1) (Vs p1) (Vn p2) (Vd p3) q4 q5))), (.int (nar .byte (F1 (14 : Int32) (Voff p1) (Vs p1) (Vn p2) (Vd p3) q4 q5))), (.int (nar .byte (F1 (15 : Int32) (Voff p1) (Vs p1) (Vn p2) (Vd p3) q4 q5))), (.int (nar .byte (F1 (16 : Int32) (Voff p1) (Vs p1) (Vn p2) (Vd p3) q4 q5))), (.int (nar .byte (F1 (17 : Int32) (Voff p1) (Vs p1) (Vn p2) (Vd p3) q4 q5))), (.int (nar .byte (F1 (18 : Int32) (Voff p1) (Vs p1) (Vn p2) (Vd p3) q4 q5))), (.int (nar .byte (F1 (19 : Int32) (Voff p1) (Vs p1) (Vn p2) (Vd p3) q4 q5))), (.int (nar .byte (F1 (20 : Int32) (Voff p1) (Vs p1) (Vn p2) (Vd p3) q4 q5))), (.int (nar .byte (F1 (21 : Int32) (Voff p1) (Vs p1) (Vn p2) (Vd p3) q4 q5))), (.int (nar .byte (F1 (22 : Int32) (Voff p1) (Vs p1) (Vn p2) (Vd p3) q4 q5))), (.int (nar .byte (F1 (23 : Int32) (Voff p1) (Vs p1) (Vn p2) (Vd p3) q4 q5))), (.int (nar .byte (F1 (24 : Int32) (Voff p1) (Vs p1) (Vn p2) (Vd p3) q4 q5))), (.int (0 : Int32)), (.int (0 : Int32))] (.int (0 : Int32)) := Arv.set Ar52 aq52 aS52 aN52 aH52 aG52 (fits_nar_byte _) W52 24 rfl (Nat.le_of_ble_eq_true rfl)
  have N52 := Fr.snoc X52 N51 g_b2
  have Z52 := Nat.le_trans Z50 (Keep.of_wr W52).1
  obtain ⟨_, _, ⟨T53, L53, k53, n53⟩, -, X53, ⟨Lc53, hQ53, l53, y53, z53⟩, st53⟩ := Jvm.LawKit.callS X52 hx (y := (⟨"com/example/levelwright/levelwright/BzwShapeIsPlainWholePinLaw", "at", "(IIIIIJJ)B"⟩ : MethodName)) hown (mvT hZ (hw _ (List.mem_of_getElem? (i := 2) rfl))) (mvT hZ (hw _ (List.mem_of_getElem? (i := 3) rfl))) (mvT hZ (hw _ (List.mem_of_getElem? (i := 4) rfl))) (mvT hZ (hw _ (List.mem_of_getElem? (i := 5) rfl))) (by decide) (backOf (W := 3) (rm1 l Z a0 hw [] (25 : Int32) (Voff p1) (Vs p1) (Vn p2) (Vd p3) q4 q5 h52 n0 Z52 ) hZ (hw _ (List.mem_of_getElem? (i := 5) rfl)) (hw _ (List.mem_of_getElem? (i := 4) rfl)) (by decide) (by decide)) (g := (mkF m 550 #[.val (.int p1), .val (.int p2), .val (.int p3), .val (.long q4), .second, .val (.long q5), .second, .val (.int (Voff p1)), .val (.int (Vs p1)), .val (.int (Vn p2)), .val (.int (Vd p3)), .unset, .unset, .unset, .unset, .unset] [(.long q5), (.long q4), (.int (Vd p3)), (.int (Vn p2)), (.int (Vs p1)), (.int (Voff p1)), (.int (25 : Int32)), (.int (25 : Int32)), (.ref b2), (.ref b2)])) rfl (by rw [hml]; rfl) (argsL := [(.int (25 : Int32)), (.int (Voff p1)), (.int (Vs p1)), (.int (Vn p2)), (.int (Vd p3)), (.long q4), (.long q5)]) (rest := [(.int (25 : Int32)), (.ref b2), (.ref b2)]) (lenOf pd_2 rfl) rfl (by show 2 * 0 + _ ≤ _; exact Nat.le_of_eq rfl) (hb hby at_550) (fun _ _ => ⟨rfl, e52, (by decide : 1 + 0 ≤ _), (by decide : 27 + 0 ≤ _)⟩)
  dsimp only [Pt.U, Pt.locs, Pt.cells, Pt.slots] at X53 l53 y53 z53 st53 hQ53
  obtain rfl : k53 = 1 := y53
  obtain rfl : n53 = 27 := z53
  obtain ⟨rfl, N53q, e53⟩ := hQ53
  have N53 : Fr n0 L53 := by rw [l53]; exact Fr.app N52 N53q
  obtain ⟨cl54, Ar54, aq54, aS54, aN54, aH54, aG54⟩ := id V52_b2
  have hin54 : ¬ ((25 : Int32) < 0 ∨ cl54.slots.size ≤ ((25 : Int32)).toNatClampNeg) := inb_of aS54 ⟨by decide, by decide⟩
  obtain ⟨T54, h54, X54, e54, W54, st54⟩ := stB X53 hx hZ e53 Ar54 (j := (25 : Int32)) hin54 (g := (mkF m 553 #[.val (.int p1), .val (.int p2), .val (.int p3), .val (.long q4), .second, .val (.long q5), .second, .val (.int (Voff p1)), .val (.int (Vs p1)), .val (.int (Vn p2)), .val (.int (Vd p3)), .unset, .unset, .unset, .unset, .unset] [(.int (F1 (25 : Int32) (Voff p1) (Vs p1) (Vn p2) (Vd p3) q4 q5)), (.int (25 : Int32)), (.ref b2), (.ref b2)])) rfl rfl (hb hby at_553)
  have V54_b2 : Arv Z h54 b2 k2 .byte (27 : Int32) [(.int (nar .byte (F1 (0 : Int32) (Voff p1) (Vs p1) (Vn p2) (Vd p3) q4 q5))), (.int (nar .byte (F1 (1 : Int32) (Voff p1) (Vs p1) (Vn p2) (Vd p3) q4 q5))), (.int (nar .byte (F1 (2 : Int32) (Voff p1) (Vs p1) (Vn p2) (Vd p3) q4 q5))), (.int (nar .byte (F1 (3 : Int32) (Voff p1) (Vs p1) (Vn p2) (Vd p3) q4 q5))), (.int (nar .byte (F1 (4 : Int32) (Voff p1) (Vs p1) (Vn p2) (Vd p3) q4 q5))), (.int (nar .byte (F1 (5 : Int32) (Voff p1) (Vs p1) (Vn p2) (Vd p3) q4 q5))), (.int (nar .byte (F1 (6 : Int32) (Voff p1) (Vs p1) (Vn p2) (Vd p3) q4 q5))), (.int (nar .byte (F1 (7 : Int32) (Voff p1) (Vs p1) (Vn p2) (Vd p3) q4 q5))), (.int (nar .byte (F1 (8 : Int32) (Voff p1) (Vs p1) (Vn p2) (Vd p3) q4 q5))), (.int (nar .byte (F1 (9 : Int32) (Voff p1) (Vs p1) (Vn p2) (Vd p3) q4 q5))), (.int (nar .byte (F1 (10 : Int32) (Voff p1) (Vs p1) (Vn p2) (Vd p3) q4 q5))), (.int (nar .byte (F1 (11 : Int32) (Voff p1) (Vs p1) (Vn p2) (Vd p3) q4 q5))), (.int (nar .byte (F1 (12 : Int32) (Voff p1) (Vs p1) (Vn p2) (Vd p3) q4 q5))), (.int (nar .byte (F1 (13 : Int32) (Voff p1) (Vs p1) (Vn p2) (Vd p3) q4 q5))), (.int (nar .byte (F1 (14 : Int32) (Voff p1) (Vs p1) (Vn p2) (Vd p3) q4 q5))), (.int (nar .byte (F1 (15 : Int32) (Voff p1) (Vs p1) (Vn p2) (Vd p3) q4 q5))), (.int (nar .byte (F1 (16 : Int32) (Voff p1) (Vs p1) (Vn p2) (Vd p3) q4 q5))), (.int (nar .byte (F1 (17 : Int32) (Voff p1) (Vs p1) (Vn p2) (Vd p3) q4 q5))), (.int (nar .byte (F1 (18 : Int32) (Voff p1) (Vs p1) (Vn p2) (Vd p3) q4 q5))), (.int (nar .byte (F1 (19 : Int32) (Voff p1) (Vs p1) (Vn p2) (Vd p3) q4 q5))), (.int (nar .byte (F1 (20 : Int32) (Voff p1) (Vs p1) (Vn p2) (Vd p3) q4 q5))), (.int (nar .byte (F1 (21 : Int32) (Voff p1) (Vs p1) (Vn p2) (Vd p3) q4 q5))), (.int (nar .byte (F1 (22 : Int32) (Voff p1) (Vs p1) (Vn p2) (Vd p3) q4 q5))), (.int (nar .byte (F1 (23 : Int32) (Voff p1) (Vs p1) (Vn p2) (Vd p3) q4 q5))), (.int (nar .byte (F1 (24 : Int32) (Voff p1) (Vs p1) (Vn p2) (Vd p3) q4 q5))), (.int (nar .byte (F1 (25 : Int32) (Voff p1) (Vs p1) (Vn p2) (Vd p3) q4 q5))), (.int (0 : Int32))] (.int (0 : Int32)) := Arv.set Ar54 aq54 aS54 aN54 aH54 aG54 (fits_nar_byte _) W54 25 rfl (Nat.le_of_ble_eq_true rfl)
  have N54 := Fr.snoc X54 N53 g_b2
  have Z54 := Nat.le_trans Z52 (Keep.of_wr W54).1
  obtain ⟨_, _, ⟨T55, L55, k55, n55⟩, -, X55, ⟨Lc55, hQ55, l55, y55, z55⟩, st55⟩ := Jvm.LawKit.callS X54 hx (y := (⟨"com/example/levelwright/levelwright/BzwShapeIsPlainWholePinLaw", "at", "(IIIIIJJ)B"⟩ : MethodName)) hown (mvT hZ (hw _ (List.mem_of_getElem? (i := 2) rfl))) (mvT hZ (hw _ (List.mem_of_getElem? (i := 3) rfl))) (mvT hZ (hw _ (List.mem_of_getElem? (i := 4) rfl))) (mvT hZ (hw _ (List.mem_of_getElem? (i := 5) rfl))) (by decide) (backOf (W := 3) (rm1 l Z a0 hw [] (26 : Int32) (Voff p1) (Vs p1) (Vn p2) (Vd p3) q4 q5 h54 n0 Z54 ) hZ (hw _ (List.mem_of_getElem? (i := 5) rfl)) (hw _ (List.mem_of_getElem? (i := 4) rfl)) (by decide) (by decide)) (g := (mkF m 570 #[.val (.int p1), .val (.int p2), .val (.int p3), .val (.long q4), .second, .val (.long q5), .second, .val (.int (Voff p1)), .val (.int (Vs p1)), .val (.int (Vn p2)), .val (.int (Vd p3)), .unset, .unset, .unset, .unset, .unset] [(.long q5), (.long q4), (.int (Vd p3)), (.int (Vn p2)), (.int (Vs p1)), (.int (Voff p1)), (.int (26 : Int32)), (.int (26 : Int32)), (.ref b2), (.ref b2)])) rfl (by rw [hml]; rfl) (argsL := [(.int (26 : Int32)), (.int (Voff p1)), (.int (Vs p1)), (.int (Vn p2)), (.int (Vd p3)), (.long q4), (.long q5)]) (rest := [(.int (26 : Int32)), (.ref b2), (.ref b2)]) (lenOf pd_2 rfl) rfl (by show 2 * 0 + _ ≤ _; exact Nat.le_of_eq rfl) (hb hby at_570) (fun _ _ => ⟨rfl, e54, (by decide : 1 + 0 ≤ _), (by decide : 27 + 0 ≤ _)⟩)
  dsimp only [Pt.U, Pt.locs, Pt.cells, Pt.slots] at X55 l55 y55 z55 st55 hQ55
  obtain rfl : k55 = 1 := y55
  obtain rfl : n55 = 27 := z55
  obtain ⟨rfl, N55q, e55⟩ := hQ55
  have N55 : Fr n0 L55 := by rw [l55]; exact Fr.app N54 N55q
  obtain ⟨cl56, Ar56, aq56, aS56, aN56, aH56, aG56⟩ := id V54_b2
  have hin56 : ¬ ((26 : Int32) < 0 ∨ cl56.slots.size ≤ ((26 : Int32)).toNatClampNeg) := inb_of aS56 ⟨by decide, by decide⟩
  obtain ⟨T56, h56, X56, e56, W56, st56⟩ := stB X55 hx hZ e55 Ar56 (j := (26 : Int32)) hin56 (g := (mkF m 573 #[.val (.int p1), .val (.int p2), .val (.int p3), .val (.long q4), .second, .val (.long q5), .second, .val (.int (Voff p1)), .val (.int (Vs p1)), .val (.int (Vn p2)), .val (.int (Vd p3)), .unset, .unset, .unset, .unset, .unset] [(.int (F1 (26 : Int32) (Voff p1) (Vs p1) (Vn p2) (Vd p3) q4 q5)), (.int (26 : Int32)), (.ref b2), (.ref b2)])) rfl rfl (hb hby at_573)
  have V56_b2 : Arv Z h56 b2 k2 .byte (27 : Int32) [(.int (nar .byte (F1 (0 : Int32) (Voff p1) (Vs p1) (Vn p2) (Vd p3) q4 q5))), (.int (nar .byte (F1 (1 : Int32) (Voff p1) (Vs p1) (Vn p2) (Vd p3) q4 q5))), (.int (nar .byte (F1 (2 : Int32) (Voff p1) (Vs p1) (Vn p2) (Vd p3) q4 q5))), (.int (nar .byte (F1 (3 : Int32) (Voff p1) (Vs p1) (Vn p2) (Vd p3) q4 q5))), (.int (nar .byte (F1 (4 : Int32) (Voff p1) (Vs p1) (Vn p2) (Vd p3) q4 q5))), (.int (nar .byte (F1 (5 : Int32) (Voff p1) (Vs p1) (Vn p2) (Vd p3) q4 q5))), (.int (nar .byte (F1 (6 : Int32) (Voff p1) (Vs p1) (Vn p2) (Vd p3) q4 q5))), (.int (nar .byte (F1 (7 : Int32) (Voff p1) (Vs p1) (Vn p2) (Vd p3) q4 q5))), (.int (nar .byte (F1 (8 : Int32) (Voff p1) (Vs p1) (Vn p2) (Vd p3) q4 q5))), (.int (nar .byte (F1 (9 : Int32) (Voff p1) (Vs p1) (Vn p2) (Vd p3) q4 q5))), (.int (nar .byte (F1 (10 : Int32) (Voff p1) (Vs p1) (Vn p2) (Vd p3) q4 q5))), (.int (nar .byte (F1 (11 : Int32) (Voff p1) (Vs p1) (Vn p2) (Vd p3) q4 q5))), (.int (nar .byte (F1 (12 : Int32) (Voff p1) (Vs p1) (Vn p2) (Vd p3) q4 q5))), (.int (nar .byte (F1 (13 : Int32) (Voff p1) (Vs p1) (Vn p2) (Vd p3) q4 q5))), (.int (nar .byte (F1 (14 : Int32) (Voff p1) (Vs p1) (Vn p2) (Vd p3) q4 q5))), (.int (nar .byte (F1 (15 : Int32) (Voff p1) (Vs p1) (Vn p2) (Vd p3) q4 q5))), (.int (nar .byte (F1 (16 : Int32) (Voff p1) (Vs p1) (Vn p2) (Vd p3) q4 q5))), (.int (nar .byte (F1 (17 : Int32) (Voff p1) (Vs p1) (Vn p2) (Vd p3) q4 q5))), (.int (nar .byte (F1 (18 : Int32) (Voff p1) (Vs p1) (Vn p2) (Vd p3) q4 q5))), (.int (nar .byte (F1 (19 : Int32) (Voff p1) (Vs p1) (Vn p2) (Vd p3) q4 q5))), (.int (nar .byte (F1 (20 : Int32) (Voff p1) (Vs p1) (Vn p2) (Vd p3) q4 q5))), (.int (nar .byte (F1 (21 : Int32) (Voff p1) (Vs p1) (Vn p2) (Vd p3) q4 q5))), (.int (nar .byte (F1 (22 : Int32) (Voff p1) (Vs p1) (Vn p2) (Vd p3) q4 q5))), (.int (nar .byte (F1 (23 : Int32) (Voff p1) (Vs p1) (Vn p2) (Vd p3) q4 q5))), (.int (nar .byte (F1 (24 : Int32) (Voff p1) (Vs p1) (Vn p2) (Vd p3) q4 q5))), (.int (nar .byte (F1 (25 : Int32) (Voff p1) (Vs p1) (Vn p2) (Vd p3) q4 q5))), (.int (nar .byte (F1 (26 : Int32) (Voff p1) (Vs p1) (Vn p2) (Vd p3) q4 q5)))] (.int (0 : Int32)) := Arv.set Ar56 aq56 aS56 aN56 aH56 aG56 (fits_nar_byte _) W56 26 rfl (Nat.le_of_ble_eq_true rfl)
  have N56 := Fr.snoc X56 N55 g_b2
  have Z56 := Nat.le_trans Z54 (Keep.of_wr W56).1
  obtain ⟨_, _, ⟨T62, L62, k62, n62⟩, -, X62, ⟨Lc62, hQ62, l62, y62, z62⟩, st62⟩ := Jvm.LawKit.callS X56 hx (y := (⟨"com/example/levelwright/levelwright/BzwShape", "isPlainWhole", "([BII)Z"⟩ : MethodName)) hown (mvT hZ (hw _ (List.mem_of_getElem? (i := 8) rfl))) (mvT hZ (hw _ (List.mem_of_getElem? (i := 9) rfl))) (mvT hZ (hw _ (List.mem_of_getElem? (i := 10) rfl))) (mvT hZ (hw _ (List.mem_of_getElem? (i := 11) rfl))) (by decide) (backOf (W := 0) (rm2 l Z a0 hw [] b2 (Voff p1) (Vto p1 p2) (fun j => nar .byte (F1 j (Voff p1) (Vs p1) (Vn p2) (Vd p3) q4 q5)) k2 _ h56 n0 Z56 V56_b2 (own_list p1 p2 p3 q4 q5) (own_b2 p1) (own_b3 p1)) hZ (hw _ (List.mem_of_getElem? (i := 11) rfl)) (hw _ (List.mem_of_getElem? (i := 10) rfl)) (by decide) (by decide)) (g := (mkF m 633 #[.val (.int p1), .val (.int p2), .val (.int p3), .val (.long q4), .second, .val (.long q5), .second, .val (.int (Voff p1)), .val (.int (Vs p1)), .val (.int (Vn p2)), .val (.int (Vd p3)), .val (.ref b2), .val (.int (Voff p1)), .val (.int (Vto p1 p2)), .val (.int (Vplain p1 p2 p3)), .unset] [(.int (Vto p1 p2)), (.int (Voff p1)), (.ref b2)])) rfl (by rw [hml]; rfl) (argsL := [(.ref b2), (.int (Voff p1)), (.int (Vto p1 p2))]) (rest := []) (lenOf pd_3 rfl) rfl (by show 2 * 0 + _ ≤ _; exact Nat.le_of_eq rfl) (hb hby at_633) (fun _ _ => ⟨rfl, e56, (by decide : 1 + 0 ≤ _), (by decide : 27 + 0 ≤ _)⟩)
  dsimp only [Pt.U, Pt.locs, Pt.cells, Pt.slots] at X62 l62 y62 z62 st62 hQ62
  obtain rfl : k62 = 1 := y62
  obtain rfl : n62 = 27 := z62
  obtain ⟨rfl, N62q, e62⟩ := hQ62
  have N62 : Fr n0 L62 := by rw [l62]; exact Fr.app N56 N62q
  obtain ⟨fs, hr, hrun, hended, hW, hsame⟩ := X62.leave (v := some (.int (if (18 : Int32) < (Vn p2) then (if (Vn p2) = (19 : Int32) then (if (F2 (Voff p1) (Vto p1 p2) (fun j => nar .byte (F1 j (Voff p1) (Vs p1) (Vn p2) (Vd p3) q4 q5))) = (0 : Int32) then (1 : Int32) else (if (Vplain p1 p2 p3) = (0 : Int32) then (0 : Int32) else (1 : Int32))) else (if (F2 (Voff p1) (Vto p1 p2) (fun j => nar .byte (F1 j (Voff p1) (Vs p1) (Vn p2) (Vd p3) q4 q5))) = (0 : Int32) then (1 : Int32) else (0 : Int32))) else (if (F2 (Voff p1) (Vto p1 p2) (fun j => nar .byte (F1 j (Voff p1) (Vs p1) (Vn p2) (Vd p3) q4 q5))) = (Vplain p1 p2 p3) then (1 : Int32) else (0 : Int32))))) (fun h => by rw [Bd.returns] at h; cases h)
  refine ⟨_, _, pre0 _ ?_, hrun, hended, _, _, rfl, ?_, ⟨_, rfl⟩, hW, hsame.mono (by decide) (by decide)⟩
  · show Steps p.tables e below (s₁.setTop (mkF m 0 #[.val (.int p1), .val (.int p2), .val (.int p3), .val (.long q4), .second, .val (.long q5), .second, .unset, .unset, .unset, .unset, .unset, .unset, .unset, .unset, .unset] [])) _
    refine XS.iloadN X0.here hx rfl (hb hby at_0) rfl ?_
    show Steps p.tables e below (s₁.setTop (mkF m 1 #[.val (.int p1), .val (.int p2), .val (.int p3), .val (.long q4), .second, .val (.long q5), .second, .unset, .unset, .unset, .unset, .unset, .unset, .unset, .unset, .unset] [(.int p1)])) _
    refine XS.iconst X0.here hx rfl (hb hby at_1) ?_
    show Steps p.tables e below (s₁.setTop (mkF m 2 #[.val (.int p1), .val (.int p2), .val (.int p3), .val (.long q4), .second, .val (.long q5), .second, .unset, .unset, .unset, .unset, .unset, .unset, .unset, .unset, .unset] [(.int (3 : Int32)), (.int p1)])) _
    refine XS.iand X0.here hx rfl (hb hby at_2) rfl ?_
    show Steps p.tables e below (s₁.setTop (mkF m 3 #[.val (.int p1), .val (.int p2), .val (.int p3), .val (.long q4), .second, .val (.long q5), .second, .unset, .unset, .unset, .unset, .unset, .unset, .unset, .unset, .unset] [(.int (p1 &&& (3 : Int32)))])) _
    show Steps p.tables e below (s₁.setTop (mkF m 3 #[.val (.int p1), .val (.int p2), .val (.int p3), .val (.long q4), .second, .val (.long q5), .second, .unset, .unset, .unset, .unset, .unset, .unset, .unset, .unset, .unset] [(.int (Voff p1))])) _
    refine XS.istore X0.here hx rfl (hb hby at_3) rfl (l' := #[.val (.int p1), .val (.int p2), .val (.int p3), .val (.long q4), .second, .val (.long q5), .second, .val (.int (Voff p1)), .unset, .unset, .unset, .unset, .unset, .unset, .unset, .unset]) rfl ?_
    show Steps p.tables e below (s₁.setTop (mkF m 5 #[.val (.int p1), .val (.int p2), .val (.int p3), .val (.long q4), .second, .val (.long q5), .second, .val (.int (Voff p1)), .unset, .unset, .unset, .unset, .unset, .unset, .unset, .unset] [])) _
    refine XS.iloadN X0.here hx rfl (hb hby at_5) rfl ?_
    show Steps p.tables e below (s₁.setTop (mkF m 6 #[.val (.int p1), .val (.int p2), .val (.int p3), .val (.long q4), .second, .val (.long q5), .second, .val (.int (Voff p1)), .unset, .unset, .unset, .unset, .unset, .unset, .unset, .unset] [(.int p1)])) _
    refine XS.iconst X0.here hx rfl (hb hby at_6) ?_
    show Steps p.tables e below (s₁.setTop (mkF m 7 #[.val (.int p1), .val (.int p2), .val (.int p3), .val (.long q4), .second, .val (.long q5), .second, .val (.int (Voff p1)), .unset, .unset, .unset, .unset, .unset, .unset, .unset, .unset] [(.int (2 : Int32)), (.int p1)])) _
    refine XS.iushr X0.here hx rfl (hb hby at_7) rfl ?_
    show Steps p.tables e below (s₁.setTop (mkF m 8 #[.val (.int p1), .val (.int p2), .val (.int p3), .val (.long q4), .second, .val (.long q5), .second, .val (.int (Voff p1)), .unset, .unset, .unset, .unset, .unset, .unset, .unset, .unset] [(.int ((p1.toUInt32 >>> ((2 : Int32) &&& 31).toUInt32).toInt32))])) _
    refine X0.ldcInt hx hown (mvT hZ (hw _ (List.mem_of_getElem? (i := 0) rfl))) (g := (mkF m 8 #[.val (.int p1), .val (.int p2), .val (.int p3), .val (.long q4), .second, .val (.long q5), .second, .val (.int (Voff p1)), .unset, .unset, .unset, .unset, .unset, .unset, .unset, .unset] [(.int ((p1.toUInt32 >>> ((2 : Int32) &&& 31).toUInt32).toInt32))])) rfl (hb hby at_8) _ ?_
    show Steps p.tables e below (s₁.setTop (mkF m 10 #[.val (.int p1), .val (.int p2), .val (.int p3), .val (.long q4), .second, .val (.long q5), .second, .val (.int (Voff p1)), .unset, .unset, .unset, .unset, .unset, .unset, .unset, .unset] [(.int (2147483647 : Int32)), (.int ((p1.toUInt32 >>> ((2 : Int32) &&& 31).toUInt32).toInt32))])) _
    refine XS.iand X0.here hx rfl (hb hby at_10) rfl ?_
    show Steps p.tables e below (s₁.setTop (mkF m 11 #[.val (.int p1), .val (.int p2), .val (.int p3), .val (.long q4), .second, .val (.long q5), .second, .val (.int (Voff p1)), .unset, .unset, .unset, .unset, .unset, .unset, .unset, .unset] [(.int (((p1.toUInt32 >>> ((2 : Int32) &&& 31).toUInt32).toInt32) &&& (2147483647 : Int32)))])) _
    refine XS.iconst X0.here hx rfl (hb hby at_11) ?_
    show Steps p.tables e below (s₁.setTop (mkF m 12 #[.val (.int p1), .val (.int p2), .val (.int p3), .val (.long q4), .second, .val (.long q5), .second, .val (.int (Voff p1)), .unset, .unset, .unset, .unset, .unset, .unset, .unset, .unset] [(.int (3 : Int32)), (.int (((p1.toUInt32 >>> ((2 : Int32) &&& 31).toUInt32).toInt32) &&& (2147483647 : Int32)))])) _
    refine XS.irem X0.here hx rfl (hb hby at_12) rfl (by decide) ?_
    show Steps p.tables e below (s₁.setTop (mkF m 13 #[.val (.int p1), .val (.int p2), .val (.int p3), .val (.long q4), .second, .val (.long q5), .second, .val (.int (Voff p1)), .unset, .unset, .unset, .unset, .unset, .unset, .unset, .unset] [(.int ((((p1.toUInt32 >>> ((2 : Int32) &&& 31).toUInt32).toInt32) &&& (2147483647 : Int32)) - ((((p1.toUInt32 >>> ((2 : Int32) &&& 31).toUInt32).toInt32) &&& (2147483647 : Int32)) / (3 : Int32)) * (3 : Int32)))])) _
    show Steps p.tables e below (s₁.setTop (mkF m 13 #[.val (.int p1), .val (.int p2), .val (.int p3), .val (.long q4), .second, .val (.long q5), .second, .val (.int (Voff p1)), .unset, .unset, .unset, .unset, .unset, .unset, .unset, .unset] [(.int (Vs p1))])) _
    refine XS.istore X0.here hx rfl (hb hby at_13) rfl (l' := #[.val (.int p1), .val (.int p2), .val (.int p3), .val (.long q4), .second, .val (.long q5), .second, .val (.int (Voff p1)), .val (.int (Vs p1)), .unset, .unset, .unset, .unset, .unset, .unset, .unset]) rfl ?_
    show Steps p.tables e below (s₁.setTop (mkF m 15 #[.val (.int p1), .val (.int p2), .val (.int p3), .val (.long q4), .second, .val (.long q5), .second, .val (.int (Voff p1)), .val (.int (Vs p1)), .unset, .unset, .unset, .unset, .unset, .unset, .unset] [])) _
    refine XS.iconst X0.here hx rfl (hb hby at_15) ?_
    show Steps p.tables e below (s₁.setTop (mkF m 16 #[.val (.int p1), .val (.int p2), .val (.int p3), .val (.long q4), .second, .val (.long q5), .second, .val (.int (Voff p1)), .val (.int (Vs p1)), .unset, .unset, .unset, .unset, .unset, .unset, .unset] [(.int (1 : Int32))])) _
    refine XS.iloadN X0.here hx rfl (hb hby at_16) rfl ?_
    show Steps p.tables e below (s₁.setTop (mkF m 17 #[.val (.int p1), .val (.int p2), .val (.int p3), .val (.long q4), .second, .val (.long q5), .second, .val (.int (Voff p1)), .val (.int (Vs p1)), .unset, .unset, .unset, .unset, .unset, .unset, .unset] [(.int p2), (.int (1 : Int32))])) _
    refine X0.ldcInt hx hown (mvT hZ (hw _ (List.mem_of_getElem? (i := 0) rfl))) (g := (mkF m 17 #[.val (.int p1), .val (.int p2), .val (.int p3), .val (.long q4), .second, .val (.long q5), .second, .val (.int (Voff p1)), .val (.int (Vs p1)), .unset, .unset, .unset, .unset, .unset, .unset, .unset] [(.int p2), (.int (1 : Int32))])) rfl (hb hby at_17) _ ?_
    show Steps p.tables e below (s₁.setTop (mkF m 19 #[.val (.int p1), .val (.int p2), .val (.int p3), .val (.long q4), .second, .val (.long q5), .second, .val (.int (Voff p1)), .val (.int (Vs p1)), .unset, .unset, .unset, .unset, .unset, .unset, .unset] [(.int (2147483647 : Int32)), (.int p2), (.int (1 : Int32))])) _
    refine XS.iand X0.here hx rfl (hb hby at_19) rfl ?_
    show Steps p.tables e below (s₁.setTop (mkF m 20 #[.val (.int p1), .val (.int p2), .val (.int p3), .val (.long q4), .second, .val (.long q5), .second, .val (.int (Voff p1)), .val (.int (Vs p1)), .unset, .unset, .unset, .unset, .unset, .unset, .unset] [(.int (p2 &&& (2147483647 : Int32))), (.int (1 : Int32))])) _
    refine XS.bipush X0.here hx rfl (hb hby at_20) ?_
    show Steps p.tables e below (s₁.setTop (mkF m 22 #[.val (.int p1), .val (.int p2), .val (.int p3), .val (.long q4), .second, .val (.long q5), .second, .val (.int (Voff p1)), .val (.int (Vs p1)), .unset, .unset, .unset, .unset, .unset, .unset, .unset] [(.int (21 : Int32)), (.int (p2 &&& (2147483647 : Int32))), (.int (1 : Int32))])) _
    refine XS.irem X0.here hx rfl (hb hby at_22) rfl (by decide) ?_
    show Steps p.tables e below (s₁.setTop (mkF m 23 #[.val (.int p1), .val (.int p2), .val (.int p3), .val (.long q4), .second, .val (.long q5), .second, .val (.int (Voff p1)), .val (.int (Vs p1)), .unset, .unset, .unset, .unset, .unset, .unset, .unset] [(.int ((p2 &&& (2147483647 : Int32)) - ((p2 &&& (2147483647 : Int32)) / (21 : Int32)) * (21 : Int32))), (.int (1 : Int32))])) _
    refine XS.iadd X0.here hx rfl (hb hby at_23) rfl ?_
    show Steps p.tables e below (s₁.setTop (mkF m 24 #[.val (.int p1), .val (.int p2), .val (.int p3), .val (.long q4), .second, .val (.long q5), .second, .val (.int (Voff p1)), .val (.int (Vs p1)), .unset, .unset, .unset, .unset, .unset, .unset, .unset] [(.int ((1 : Int32) + ((p2 &&& (2147483647 : Int32)) - ((p2 &&& (2147483647 : Int32)) / (21 : Int32)) * (21 : Int32))))])) _
    show Steps p.tables e below (s₁.setTop (mkF m 24 #[.val (.int p1), .val (.int p2), .val (.int p3), .val (.long q4), .second, .val (.long q5), .second, .val (.int (Voff p1)), .val (.int (Vs p1)), .unset, .unset, .unset, .unset, .unset, .unset, .unset] [(.int (Vn p2))])) _
    refine XS.istore X0.here hx rfl (hb hby at_24) rfl (l' := #[.val (.int p1), .val (.int p2), .val (.int p3), .val (.long q4), .second, .val (.long q5), .second, .val (.int (Voff p1)), .val (.int (Vs p1)), .val (.int (Vn p2)), .unset, .unset, .unset, .unset, .unset, .unset]) rfl ?_
    show Steps p.tables e below (s₁.setTop (mkF m 26 #[.val (.int p1), .val (.int p2), .val (.int p3), .val (.long q4), .second, .val (.long q5), .second, .val (.int (Voff p1)), .val (.int (Vs p1)), .val (.int (Vn p2)), .unset, .unset, .unset, .unset, .unset, .unset] [])) _
    refine XS.iloadN X0.here hx rfl (hb hby at_26) rfl ?_
    show Steps p.tables e below (s₁.setTop (mkF m 27 #[.val (.int p1), .val (.int p2), .val (.int p3), .val (.long q4), .second, .val (.long q5), .second, .val (.int (Voff p1)), .val (.int (Vs p1)), .val (.int (Vn p2)), .unset, .unset, .unset, .unset, .unset, .unset] [(.int p3)])) _
    refine XS.bipush X0.here hx rfl (hb hby at_27) ?_
    show Steps p.tables e below (s₁.setTop (mkF m 29 #[.val (.int p1), .val (.int p2), .val (.int p3), .val (.long q4), .second, .val (.long q5), .second, .val (.int (Voff p1)), .val (.int (Vs p1)), .val (.int (Vn p2)), .unset, .unset, .unset, .unset, .unset, .unset] [(.int (15 : Int32)), (.int p3)])) _
    refine XS.iand X0.here hx rfl (hb hby at_29) rfl ?_
    show Steps p.tables e below (s₁.setTop (mkF m 30 #[.val (.int p1), .val (.int p2), .val (.int p3), .val (.long q4), .second, .val (.long q5), .second, .val (.int (Voff p1)), .val (.int (Vs p1)), .val (.int (Vn p2)), .unset, .unset, .unset, .unset, .unset, .unset] [(.int (p3 &&& (15 : Int32)))])) _
    refine XS.istore X0.here hx rfl (hb hby at_30) rfl (l' := #[.val (.int p1), .val (.int p2), .val (.int p3), .val (.long q4), .second, .val (.long q5), .second, .val (.int (Voff p1)), .val (.int (Vs p1)), .val (.int (Vn p2)), .val (.int (p3 &&& (15 : Int32))), .unset, .unset, .unset, .unset, .unset]) rfl ?_
    show Steps p.tables e below (s₁.setTop (mkF m 32 #[.val (.int p1), .val (.int p2), .val (.int p3), .val (.long q4), .second, .val (.long q5), .second, .val (.int (Voff p1)), .val (.int (Vs p1)), .val (.int (Vn p2)), .val (.int (p3 &&& (15 : Int32))), .unset, .unset, .unset, .unset, .unset] [])) _
    refine XS.iload X0.here hx rfl (hb hby at_32) rfl ?_
    show Steps p.tables e below (s₁.setTop (mkF m 34 #[.val (.int p1), .val (.int p2), .val (.int p3), .val (.long q4), .second, .val (.long q5), .second, .val (.int (Voff p1)), .val (.int (Vs p1)), .val (.int (Vn p2)), .val (.int (p3 &&& (15 : Int32))), .unset, .unset, .unset, .unset, .unset] [(.int (p3 &&& (15 : Int32)))])) _
    refine XS.bipush X0.here hx rfl (hb hby at_34) ?_
    show Steps p.tables e below (s₁.setTop (mkF m 36 #[.val (.int p1), .val (.int p2), .val (.int p3), .val (.long q4), .second, .val (.long q5), .second, .val (.int (Voff p1)), .val (.int (Vs p1)), .val (.int (Vn p2)), .val (.int (p3 &&& (15 : Int32))), .unset, .unset, .unset, .unset, .unset] [(.int (9 : Int32)), (.int (p3 &&& (15 : Int32)))])) _
    refine own_cut (A := s₁.setTop (mkF m 42 #[.val (.int p1), .val (.int p2), .val (.int p3), .val (.long q4), .second, .val (.long q5), .second, .val (.int (Voff p1)), .val (.int (Vs p1)), .val (.int (Vn p2)), .val (.int (Vd p3)), .unset, .unset, .unset, .unset, .unset] [])) (fun join => ?_) ?_
    · show Steps p.tables e below (s₁.setTop (mkF m 36 #[.val (.int p1), .val (.int p2), .val (.int p3), .val (.long q4), .second, .val (.long q5), .second, .val (.int (Voff p1)), .val (.int (Vs p1)), .val (.int (Vn p2)), .val (.int (p3 &&& (15 : Int32))), .unset, .unset, .unset, .unset, .unset] [(.int (9 : Int32)), (.int (p3 &&& (15 : Int32)))])) _
      by_cases hc36_1 : (9 : Int32) < (p3 &&& (15 : Int32))
      · refine XS.icmpNo X0.here hx rfl (hb hby at_36) rfl (tlt hc36_1).2.2.2 ?_
        show Steps p.tables e below (s₁.setTop (mkF m 39 #[.val (.int p1), .val (.int p2), .val (.int p3), .val (.long q4), .second, .val (.long q5), .second, .val (.int (Voff p1)), .val (.int (Vs p1)), .val (.int (Vn p2)), .val (.int (p3 &&& (15 : Int32))), .unset, .unset, .unset, .unset, .unset] [])) _
        refine XS.iconst X0.here hx rfl (hb hby at_39) ?_
        show Steps p.tables e below (s₁.setTop (mkF m 40 #[.val (.int p1), .val (.int p2), .val (.int p3), .val (.long q4), .second, .val (.long q5), .second, .val (.int (Voff p1)), .val (.int (Vs p1)), .val (.int (Vn p2)), .val (.int (p3 &&& (15 : Int32))), .unset, .unset, .unset, .unset, .unset] [(.int (0 : Int32))])) _
        refine XS.istore X0.here hx rfl (hb hby at_40) rfl (l' := #[.val (.int p1), .val (.int p2), .val (.int p3), .val (.long q4), .second, .val (.long q5), .second, .val (.int (Voff p1)), .val (.int (Vs p1)), .val (.int (Vn p2)), .val (.int (0 : Int32)), .unset, .unset, .unset, .unset, .unset]) rfl ?_
        rw [show (Vd p3) = (0 : Int32) by rw [Vd, if_pos hc36_1]] at join
        exact join
      · refine XS.icmpYes X0.here hx rfl (pc0 := 36) (pc' := 42) rfl (hb hby at_36) rfl (flt hc36_1).2.2.2 (by decide) (by decide) ?_
        rw [show (Vd p3) = (p3 &&& (15 : Int32)) by rw [Vd, if_neg hc36_1]] at join
        exact join
    show Steps p.tables e below (s₁.setTop (mkF m 42 #[.val (.int p1), .val (.int p2), .val (.int p3), .val (.long q4), .second, .val (.long q5), .second, .val (.int (Voff p1)), .val (.int (Vs p1)), .val (.int (Vn p2)), .val (.int (Vd p3)), .unset, .unset, .unset, .unset, .unset] [])) _
    refine XS.bipush X0.here hx rfl (hb hby at_42) ?_
    show Steps p.tables e below (s₁.setTop (mkF m 44 #[.val (.int p1), .val (.int p2), .val (.int p3), .val (.long q4), .second, .val (.long q5), .second, .val (.int (Voff p1)), .val (.int (Vs p1)), .val (.int (Vn p2)), .val (.int (Vd p3)), .unset, .unset, .unset, .unset, .unset] [(.int (27 : Int32))])) _
    refine st2 _ ?_
    show Steps p.tables e below (T2.setTop (mkF m 46 #[.val (.int p1), .val (.int p2), .val (.int p3), .val (.long q4), .second, .val (.long q5), .second, .val (.int (Voff p1)), .val (.int (Vs p1)), .val (.int (Vn p2)), .val (.int (Vd p3)), .unset, .unset, .unset, .unset, .unset] [(.ref b2)])) _
    refine XS.dup X2.here hx rfl (hb hby at_46) rfl rfl ?_
    show Steps p.tables e below (T2.setTop (mkF m 47 #[.val (.int p1), .val (.int p2), .val (.int p3), .val (.long q4), .second, .val (.long q5), .second, .val (.int (Voff p1)), .val (.int (Vs p1)), .val (.int (Vn p2)), .val (.int (Vd p3)), .unset, .unset, .unset, .unset, .unset] [(.ref b2), (.ref b2)])) _
    refine XS.iconst X2.here hx rfl (hb hby at_47) ?_
    show Steps p.tables e below (T2.setTop (mkF m 48 #[.val (.int p1), .val (.int p2), .val (.int p3), .val (.long q4), .second, .val (.long q5), .second, .val (.int (Voff p1)), .val (.int (Vs p1)), .val (.int (Vn p2)), .val (.int (Vd p3)), .unset, .unset, .unset, .unset, .unset] [(.int (0 : Int32)), (.ref b2), (.ref b2)])) _
    refine XS.iconst X2.here hx rfl (hb hby at_48) ?_
    show Steps p.tables e below (T2.setTop (mkF m 49 #[.val (.int p1), .val (.int p2), .val (.int p3), .val (.long q4), .second, .val (.long q5), .second, .val (.int (Voff p1)), .val (.int (Vs p1)), .val (.int (Vn p2)), .val (.int (Vd p3)), .unset, .unset, .unset, .unset, .unset] [(.int (0 : Int32)), (.int (0 : Int32)), (.ref b2), (.ref b2)])) _
    refine XS.iload X2.here hx rfl (hb hby at_49) rfl ?_
    show Steps p.tables e below (T2.setTop (mkF m 51 #[.val (.int p1), .val (.int p2), .val (.int p3), .val (.long q4), .second, .val (.long q5), .second, .val (.int (Voff p1)), .val (.int (Vs p1)), .val (.int (Vn p2)), .val (.int (Vd p3)), .unset, .unset, .unset, .unset, .unset] [(.int (Voff p1)), (.int (0 : Int32)), (.int (0 : Int32)), (.ref b2), (.ref b2)])) _
    refine XS.iload X2.here hx rfl (hb hby at_51) rfl ?_
    show Steps p.tables e below (T2.setTop (mkF m 53 #[.val (.int p1), .val (.int p2), .val (.int p3), .val (.long q4), .second, .val (.long q5), .second, .val (.int (Voff p1)), .val (.int (Vs p1)), .val (.int (Vn p2)), .val (.int (Vd p3)), .unset, .unset, .unset, .unset, .unset] [(.int (Vs p1)), (.int (Voff p1)), (.int (0 : Int32)), (.int (0 : Int32)), (.ref b2), (.ref b2)])) _
    refine XS.iload X2.here hx rfl (hb hby at_53) rfl ?_
    show Steps p.tables e below (T2.setTop (mkF m 55 #[.val (.int p1), .val (.int p2), .val (.int p3), .val (.long q4), .second, .val (.long q5), .second, .val (.int (Voff p1)), .val (.int (Vs p1)), .val (.int (Vn p2)), .val (.int (Vd p3)), .unset, .unset, .unset, .unset, .unset] [(.int (Vn p2)), (.int (Vs p1)), (.int (Voff p1)), (.int (0 : Int32)), (.int (0 : Int32)), (.ref b2), (.ref b2)])) _
    refine XS.iload X2.here hx rfl (hb hby at_55) rfl ?_
    show Steps p.tables e below (T2.setTop (mkF m 57 #[.val (.int p1), .val (.int p2), .val (.int p3), .val (.long q4), .second, .val (.long q5), .second, .val (.int (Voff p1)), .val (.int (Vs p1)), .val (.int (Vn p2)), .val (.int (Vd p3)), .unset, .unset, .unset, .unset, .unset] [(.int (Vd p3)), (.int (Vn p2)), (.int (Vs p1)), (.int (Voff p1)), (.int (0 : Int32)), (.int (0 : Int32)), (.ref b2), (.ref b2)])) _
    refine XS.lloadN X2.here hx rfl (hb hby at_57) rfl ?_
    show Steps p.tables e below (T2.setTop (mkF m 58 #[.val (.int p1), .val (.int p2), .val (.int p3), .val (.long q4), .second, .val (.long q5), .second, .val (.int (Voff p1)), .val (.int (Vs p1)), .val (.int (Vn p2)), .val (.int (Vd p3)), .unset, .unset, .unset, .unset, .unset] [(.long q4), (.int (Vd p3)), (.int (Vn p2)), (.int (Vs p1)), (.int (Voff p1)), (.int (0 : Int32)), (.int (0 : Int32)), (.ref b2), (.ref b2)])) _
    refine XS.lload X2.here hx rfl (hb hby at_58) rfl ?_
    show Steps p.tables e below (T2.setTop (mkF m 60 #[.val (.int p1), .val (.int p2), .val (.int p3), .val (.long q4), .second, .val (.long q5), .second, .val (.int (Voff p1)), .val (.int (Vs p1)), .val (.int (Vn p2)), .val (.int (Vd p3)), .unset, .unset, .unset, .unset, .unset] [(.long q5), (.long q4), (.int (Vd p3)), (.int (Vn p2)), (.int (Vs p1)), (.int (Voff p1)), (.int (0 : Int32)), (.int (0 : Int32)), (.ref b2), (.ref b2)])) _
    refine st3 _ ?_
    show Steps p.tables e below (T3.setTop (mkF m 63 #[.val (.int p1), .val (.int p2), .val (.int p3), .val (.long q4), .second, .val (.long q5), .second, .val (.int (Voff p1)), .val (.int (Vs p1)), .val (.int (Vn p2)), .val (.int (Vd p3)), .unset, .unset, .unset, .unset, .unset] [(.int (F1 (0 : Int32) (Voff p1) (Vs p1) (Vn p2) (Vd p3) q4 q5)), (.int (0 : Int32)), (.ref b2), (.ref b2)])) _
    refine st4 _ ?_
    show Steps p.tables e below (T4.setTop (mkF m 64 #[.val (.int p1), .val (.int p2), .val (.int p3), .val (.long q4), .second, .val (.long q5), .second, .val (.int (Voff p1)), .val (.int (Vs p1)), .val (.int (Vn p2)), .val (.int (Vd p3)), .unset, .unset, .unset, .unset, .unset] [(.ref b2)])) _
    refine XS.dup X4.here hx rfl (hb hby at_64) rfl rfl ?_
    show Steps p.tables e below (T4.setTop (mkF m 65 #[.val (.int p1), .val (.int p2), .val (.int p3), .val (.long q4), .second, .val (.long q5), .second, .val (.int (Voff p1)), .val (.int (Vs p1)), .val (.int (Vn p2)), .val (.int (Vd p3)), .unset, .unset, .unset, .unset, .unset] [(.ref b2), (.ref b2)])) _
    refine XS.iconst X4.here hx rfl (hb hby at_65) ?_
    show Steps p.tables e below (T4.setTop (mkF m 66 #[.val (.int p1), .val (.int p2), .val (.int p3), .val (.long q4), .second, .val (.long q5), .second, .val (.int (Voff p1)), .val (.int (Vs p1)), .val (.int (Vn p2)), .val (.int (Vd p3)), .unset, .unset, .unset, .unset, .unset] [(.int (1 : Int32)), (.ref b2), (.ref b2)])) _
    refine XS.iconst X4.here hx rfl (hb hby at_66) ?_
    show Steps p.tables e below (T4.setTop (mkF m 67 #[.val (.int p1), .val (.int p2), .val (.int p3), .val (.long q4), .second, .val (.long q5), .second, .val (.int (Voff p1)), .val (.int (Vs p1)), .val (.int (Vn p2)), .val (.int (Vd p3)), .unset, .unset, .unset, .unset, .unset] [(.int (1 : Int32)), (.int (1 : Int32)), (.ref b2), (.ref b2)])) _
    refine XS.iload X4.here hx rfl (hb hby at_67) rfl ?_
    show Steps p.tables e below (T4.setTop (mkF m 69 #[.val (.int p1), .val (.int p2), .val (.int p3), .val (.long q4), .second, .val (.long q5), .second, .val (.int (Voff p1)), .val (.int (Vs p1)), .val (.int (Vn p2)), .val (.int (Vd p3)), .unset, .unset, .unset, .unset, .unset] [(.int (Voff p1)), (.int (1 : Int32)), (.int (1 : Int32)), (.ref b2), (.ref b2)])) _
    refine XS.iload X4.here hx rfl (hb hby at_69) rfl ?_
    show Steps p.tables e below (T4.setTop (mkF m 71 #[.val (.int p1), .val (.int p2), .val (.int p3), .val (.long q4), .second, .val (.long q5), .second, .val (.int (Voff p1)), .val (.int (Vs p1)), .val (.int (Vn p2)), .val (.int (Vd p3)), .unset, .unset, .unset, .unset, .unset] [(.int (Vs p1)), (.int (Voff p1)), (.int (1 : Int32)), (.int (1 : Int32)), (.ref b2), (.ref b2)])) _
    refine XS.iload X4.here hx rfl (hb hby at_71) rfl ?_
    show Steps p.tables e below (T4.setTop (mkF m 73 #[.val (.int p1), .val (.int p2), .val (.int p3), .val (.long q4), .second, .val (.long q5), .second, .val (.int (Voff p1)), .val (.int (Vs p1)), .val (.int (Vn p2)), .val (.int (Vd p3)), .unset, .unset, .unset, .unset, .unset] [(.int (Vn p2)), (.int (Vs p1)), (.int (Voff p1)), (.int (1 : Int32)), (.int (1 : Int32)), (.ref b2), (.ref b2)])) _
    refine XS.iload X4.here hx rfl (hb hby at_73) rfl ?_
    show Steps p.tables e below (T4.setTop (mkF m 75 #[.val (.int p1), .val (.int p2), .val (.int p3), .val (.long q4), .second, .val (.long q5), .second, .val (.int (Voff p1)), .val (.int (Vs p1)), .val (.int (Vn p2)), .val (.int (Vd p3)), .unset, .unset, .unset, .unset, .unset] [(.int (Vd p3)), (.int (Vn p2)), (.int (Vs p1)), (.int (Voff p1)), (.int (1 : Int32)), (.int (1 : Int32)), (.ref b2), (.ref b2)])) _
    refine XS.lloadN X4.here hx rfl (hb hby at_75) rfl ?_
    show Steps p.tables e below (T4.setTop (mkF m 76 #[.val (.int p1), .val (.int p2), .val (.int p3), .val (.long q4), .second, .val (.long q5), .second, .val (.int (Voff p1)), .val (.int (Vs p1)), .val (.int (Vn p2)), .val (.int (Vd p3)), .unset, .unset, .unset, .unset, .unset] [(.long q4), (.int (Vd p3)), (.int (Vn p2)), (.int (Vs p1)), (.int (Voff p1)), (.int (1 : Int32)), (.int (1 : Int32)), (.ref b2), (.ref b2)])) _
    refine XS.lload X4.here hx rfl (hb hby at_76) rfl ?_
    show Steps p.tables e below (T4.setTop (mkF m 78 #[.val (.int p1), .val (.int p2), .val (.int p3), .val (.long q4), .second, .val (.long q5), .second, .val (.int (Voff p1)), .val (.int (Vs p1)), .val (.int (Vn p2)), .val (.int (Vd p3)), .unset, .unset, .unset, .unset, .unset] [(.long q5), (.long q4), (.int (Vd p3)), (.int (Vn p2)), (.int (Vs p1)), (.int (Voff p1)), (.int (1 : Int32)), (.int (1 : Int32)), (.ref b2), (.ref b2)])) _
    refine st5 _ ?_
    show Steps p.tables e below (T5.setTop (mkF m 81 #[.val (.int p1), .val (.int p2), .val (.int p3), .val (.long q4), .second, .val (.long q5), .second, .val (.int (Voff p1)), .val (.int (Vs p1)), .val (.int (Vn p2)), .val (.int (Vd p3)), .unset, .unset, .unset, .unset, .unset] [(.int (F1 (1 : Int32) (Voff p1) (Vs p1) (Vn p2) (Vd p3) q4 q5)), (.int (1 : Int32)), (.ref b2), (.ref b2)])) _
    refine st6 _ ?_
    show Steps p.tables e below (T6.setTop (mkF m 82 #[.val (.int p1), .val (.int p2), .val (.int p3), .val (.long q4), .second, .val (.long q5), .second, .val (.int (Voff p1)), .val (.int (Vs p1)), .val (.int (Vn p2)), .val (.int (Vd p3)), .unset, .unset, .unset, .unset, .unset] [(.ref b2)])) _
    refine XS.dup X6.here hx rfl (hb hby at_82) rfl rfl ?_
    show Steps p.tables e below (T6.setTop (mkF m 83 #[.val (.int p1), .val (.int p2), .val (.int p3), .val (.long q4), .second, .val (.long q5), .second, .val (.int (Voff p1)), .val (.int (Vs p1)), .val (.int (Vn p2)), .val (.int (Vd p3)), .unset, .unset, .unset, .unset, .unset] [(.ref b2), (.ref b2)])) _
    refine XS.iconst X6.here hx rfl (hb hby at_83) ?_
    show Steps p.tables e below (T6.setTop (mkF m 84 #[.val (.int p1), .val (.int p2), .val (.int p3), .val (.long q4), .second, .val (.long q5), .second, .val (.int (Voff p1)), .val (.int (Vs p1)), .val (.int (Vn p2)), .val (.int (Vd p3)), .unset, .unset, .unset, .unset, .unset] [(.int (2 : Int32)), (.ref b2), (.ref b2)])) _
    refine XS.iconst X6.here hx rfl (hb hby at_84) ?_
    show Steps p.tables e below (T6.setTop (mkF m 85 #[.val (.int p1), .val (.int p2), .val (.int p3), .val (.long q4), .second, .val (.long q5), .second, .val (.int (Voff p1)), .val (.int (Vs p1)), .val (.int (Vn p2)), .val (.int (Vd p3)), .unset, .unset, .unset, .unset, .unset] [(.int (2 : Int32)), (.int (2 : Int32)), (.ref b2), (.ref b2)])) _
    refine XS.iload X6.here hx rfl (hb hby at_85) rfl ?_
    show Steps p.tables e below (T6.setTop (mkF m 87 #[.val (.int p1), .val (.int p2), .val (.int p3), .val (.long q4), .second, .val (.long q5), .second, .val (.int (Voff p1)), .val (.int (Vs p1)), .val (.int (Vn p2)), .val (.int (Vd p3)), .unset, .unset, .unset, .unset, .unset] [(.int (Voff p1)), (.int (2 : Int32)), (.int (2 : Int32)), (.ref b2), (.ref b2)])) _
    refine XS.iload X6.here hx rfl (hb hby at_87) rfl ?_
    show Steps p.tables e below (T6.setTop (mkF m 89 #[.val (.int p1), .val (.int p2), .val (.int p3), .val (.long q4), .second, .val (.long q5), .second, .val (.int (Voff p1)), .val (.int (Vs p1)), .val (.int (Vn p2)), .val (.int (Vd p3)), .unset, .unset, .unset, .unset, .unset] [(.int (Vs p1)), (.int (Voff p1)), (.int (2 : Int32)), (.int (2 : Int32)), (.ref b2), (.ref b2)])) _
    refine XS.iload X6.here hx rfl (hb hby at_89) rfl ?_
    show Steps p.tables e below (T6.setTop (mkF m 91 #[.val (.int p1), .val (.int p2), .val (.int p3), .val (.long q4), .second, .val (.long q5), .second, .val (.int (Voff p1)), .val (.int (Vs p1)), .val (.int (Vn p2)), .val (.int (Vd p3)), .unset, .unset, .unset, .unset, .unset] [(.int (Vn p2)), (.int (Vs p1)), (.int (Voff p1)), (.int (2 : Int32)), (.int (2 : Int32)), (.ref b2), (.ref b2)])) _
    refine XS.iload X6.here hx rfl (hb hby at_91) rfl ?_
    show Steps p.tables e below (T6.setTop (mkF m 93 #[.val (.int p1), .val (.int p2), .val (.int p3), .val (.long q4), .second, .val (.long q5), .second, .val (.int (Voff p1)), .val (.int (Vs p1)), .val (.int (Vn p2)), .val (.int (Vd p3)), .unset, .unset, .unset, .unset, .unset] [(.int (Vd p3)), (.int (Vn p2)), (.int (Vs p1)), (.int (Voff p1)), (.int (2 : Int32)), (.int (2 : Int32)), (.ref b2), (.ref b2)])) _
    refine XS.lloadN X6.here hx rfl (hb hby at_93) rfl ?_
    show Steps p.tables e below (T6.setTop (mkF m 94 #[.val (.int p1), .val (.int p2), .val (.int p3), .val (.long q4), .second, .val (.long q5), .second, .val (.int (Voff p1)), .val (.int (Vs p1)), .val (.int (Vn p2)), .val (.int (Vd p3)), .unset, .unset, .unset, .unset, .unset] [(.long q4), (.int (Vd p3)), (.int (Vn p2)), (.int (Vs p1)), (.int (Voff p1)), (.int (2 : Int32)), (.int (2 : Int32)), (.ref b2), (.ref b2)])) _
    refine XS.lload X6.here hx rfl (hb hby at_94) rfl ?_
    show Steps p.tables e below (T6.setTop (mkF m 96 #[.val (.int p1), .val (.int p2), .val (.int p3), .val (.long q4), .second, .val (.long q5), .second, .val (.int (Voff p1)), .val (.int (Vs p1)), .val (.int (Vn p2)), .val (.int (Vd p3)), .unset, .unset, .unset, .unset, .unset] [(.long q5), (.long q4), (.int (Vd p3)), (.int (Vn p2)), (.int (Vs p1)), (.int (Voff p1)), (.int (2 : Int32)), (.int (2 : Int32)), (.ref b2), (.ref b2)])) _
    refine st7 _ ?_
    show Steps p.tables e below (T7.setTop (mkF m 99 #[.val (.int p1), .val (.int p2), .val (.int p3), .val (.long q4), .second, .val (.long q5), .second, .val (.int (Voff p1)), .val (.int (Vs p1)), .val (.int (Vn p2)), .val (.int (Vd p3)), .unset, .unset, .unset, .unset, .unset] [(.int (F1 (2 : Int32) (Voff p1) (Vs p1) (Vn p2) (Vd p3) q4 q5)), (.int (2 : Int32)), (.ref b2), (.ref b2)])) _
    refine st8 _ ?_
    show Steps p.tables e below (T8.setTop (mkF m 100 #[.val (.int p1), .val (.int p2), .val (.int p3), .val (.long q4), .second, .val (.long q5), .second, .val (.int (Voff p1)), .val (.int (Vs p1)), .val (.int (Vn p2)), .val (.int (Vd p3)), .unset, .unset, .unset, .unset, .unset] [(.ref b2)])) _
    refine XS.dup X8.here hx rfl (hb hby at_100) rfl rfl ?_
    show Steps p.tables e below (T8.setTop (mkF m 101 #[.val (.int p1), .val (.int p2), .val (.int p3), .val (.long q4), .second, .val (.long q5), .second, .val (.int (Voff p1)), .val (.int (Vs p1)), .val (.int (Vn p2)), .val (.int (Vd p3)), .unset, .unset, .unset, .unset, .unset] [(.ref b2), (.ref b2)])) _
    refine XS.iconst X8.here hx rfl (hb hby at_101) ?_
    show Steps p.tables e below (T8.setTop (mkF m 102 #[.val (.int p1), .val (.int p2), .val (.int p3), .val (.long q4), .second, .val (.long q5), .second, .val (.int (Voff p1)), .val (.int (Vs p1)), .val (.int (Vn p2)), .val (.int (Vd p3)), .unset, .unset, .unset, .unset, .unset] [(.int (3 : Int32)), (.ref b2), (.ref b2)])) _
    refine XS.iconst X8.here hx rfl (hb hby at_102) ?_
    show Steps p.tables e below (T8.setTop (mkF m 103 #[.val (.int p1), .val (.int p2), .val (.int p3), .val (.long q4), .second, .val (.long q5), .second, .val (.int (Voff p1)), .val (.int (Vs p1)), .val (.int (Vn p2)), .val (.int (Vd p3)), .unset, .unset, .unset, .unset, .unset] [(.int (3 : Int32)), (.int (3 : Int32)), (.ref b2), (.ref b2)])) _
    refine XS.iload X8.here hx rfl (hb hby at_103) rfl ?_
    show Steps p.tables e below (T8.setTop (mkF m 105 #[.val (.int p1), .val (.int p2), .val (.int p3), .val (.long q4), .second, .val (.long q5), .second, .val (.int (Voff p1)), .val (.int (Vs p1)), .val (.int (Vn p2)), .val (.int (Vd p3)), .unset, .unset, .unset, .unset, .unset] [(.int (Voff p1)), (.int (3 : Int32)), (.int (3 : Int32)), (.ref b2), (.ref b2)])) _
    refine XS.iload X8.here hx rfl (hb hby at_105) rfl ?_
    show Steps p.tables e below (T8.setTop (mkF m 107 #[.val (.int p1), .val (.int p2), .val (.int p3), .val (.long q4), .second, .val (.long q5), .second, .val (.int (Voff p1)), .val (.int (Vs p1)), .val (.int (Vn p2)), .val (.int (Vd p3)), .unset, .unset, .unset, .unset, .unset] [(.int (Vs p1)), (.int (Voff p1)), (.int (3 : Int32)), (.int (3 : Int32)), (.ref b2), (.ref b2)])) _
    refine XS.iload X8.here hx rfl (hb hby at_107) rfl ?_
    show Steps p.tables e below (T8.setTop (mkF m 109 #[.val (.int p1), .val (.int p2), .val (.int p3), .val (.long q4), .second, .val (.long q5), .second, .val (.int (Voff p1)), .val (.int (Vs p1)), .val (.int (Vn p2)), .val (.int (Vd p3)), .unset, .unset, .unset, .unset, .unset] [(.int (Vn p2)), (.int (Vs p1)), (.int (Voff p1)), (.int (3 : Int32)), (.int (3 : Int32)), (.ref b2), (.ref b2)])) _
    refine XS.iload X8.here hx rfl (hb hby at_109) rfl ?_
    show Steps p.tables e below (T8.setTop (mkF m 111 #[.val (.int p1), .val (.int p2), .val (.int p3), .val (.long q4), .second, .val (.long q5), .second, .val (.int (Voff p1)), .val (.int (Vs p1)), .val (.int (Vn p2)), .val (.int (Vd p3)), .unset, .unset, .unset, .unset, .unset] [(.int (Vd p3)), (.int (Vn p2)), (.int (Vs p1)), (.int (Voff p1)), (.int (3 : Int32)), (.int (3 : Int32)), (.ref b2), (.ref b2)])) _
    refine XS.lloadN X8.here hx rfl (hb hby at_111) rfl ?_
    show Steps p.tables e below (T8.setTop (mkF m 112 #[.val (.int p1), .val (.int p2), .val (.int p3), .val (.long q4), .second, .val (.long q5), .second, .val (.int (Voff p1)), .val (.int (Vs p1)), .val (.int (Vn p2)), .val (.int (Vd p3)), .unset, .unset, .unset, .unset, .unset] [(.long q4), (.int (Vd p3)), (.int (Vn p2)), (.int (Vs p1)), (.int (Voff p1)), (.int (3 : Int32)), (.int (3 : Int32)), (.ref b2), (.ref b2)])) _
    refine XS.lload X8.here hx rfl (hb hby at_112) rfl ?_
    show Steps p.tables e below (T8.setTop (mkF m 114 #[.val (.int p1), .val (.int p2), .val (.int p3), .val (.long q4), .second, .val (.long q5), .second, .val (.int (Voff p1)), .val (.int (Vs p1)), .val (.int (Vn p2)), .val (.int (Vd p3)), .unset, .unset, .unset, .unset, .unset] [(.long q5), (.long q4), (.int (Vd p3)), (.int (Vn p2)), (.int (Vs p1)), (.int (Voff p1)), (.int (3 : Int32)), (.int (3 : Int32)), (.ref b2), (.ref b2)])) _
    refine st9 _ ?_
    show Steps p.tables e below (T9.setTop (mkF m 117 #[.val (.int p1), .val (.int p2), .val (.int p3), .val (.long q4), .second, .val (.long q5), .second, .val (.int (Voff p1)), .val (.int (Vs p1)), .val (.int (Vn p2)), .val (.int (Vd p3)), .unset, .unset, .unset, .unset, .unset] [(.int (F1 (3 : Int32) (Voff p1) (Vs p1) (Vn p2) (Vd p3) q4 q5)), (.int (3 : Int32)), (.ref b2), (.ref b2)])) _
    refine st10 _ ?_
    show Steps p.tables e below (T10.setTop (mkF m 118 #[.val (.int p1), .val (.int p2), .val (.int p3), .val (.long q4), .second, .val (.long q5), .second, .val (.int (Voff p1)), .val (.int (Vs p1)), .val (.int (Vn p2)), .val (.int (Vd p3)), .unset, .unset, .unset, .unset, .unset] [(.ref b2)])) _
    refine XS.dup X10.here hx rfl (hb hby at_118) rfl rfl ?_
    show Steps p.tables e below (T10.setTop (mkF m 119 #[.val (.int p1), .val (.int p2), .val (.int p3), .val (.long q4), .second, .val (.long q5), .second, .val (.int (Voff p1)), .val (.int (Vs p1)), .val (.int (Vn p2)), .val (.int (Vd p3)), .unset, .unset, .unset, .unset, .unset] [(.ref b2), (.ref b2)])) _
    refine XS.iconst X10.here hx rfl (hb hby at_119) ?_
    show Steps p.tables e below (T10.setTop (mkF m 120 #[.val (.int p1), .val (.int p2), .val (.int p3), .val (.long q4), .second, .val (.long q5), .second, .val (.int (Voff p1)), .val (.int (Vs p1)), .val (.int (Vn p2)), .val (.int (Vd p3)), .unset, .unset, .unset, .unset, .unset] [(.int (4 : Int32)), (.ref b2), (.ref b2)])) _
    refine XS.iconst X10.here hx rfl (hb hby at_120) ?_
    show Steps p.tables e below (T10.setTop (mkF m 121 #[.val (.int p1), .val (.int p2), .val (.int p3), .val (.long q4), .second, .val (.long q5), .second, .val (.int (Voff p1)), .val (.int (Vs p1)), .val (.int (Vn p2)), .val (.int (Vd p3)), .unset, .unset, .unset, .unset, .unset] [(.int (4 : Int32)), (.int (4 : Int32)), (.ref b2), (.ref b2)])) _
    refine XS.iload X10.here hx rfl (hb hby at_121) rfl ?_
    show Steps p.tables e below (T10.setTop (mkF m 123 #[.val (.int p1), .val (.int p2), .val (.int p3), .val (.long q4), .second, .val (.long q5), .second, .val (.int (Voff p1)), .val (.int (Vs p1)), .val (.int (Vn p2)), .val (.int (Vd p3)), .unset, .unset, .unset, .unset, .unset] [(.int (Voff p1)), (.int (4 : Int32)), (.int (4 : Int32)), (.ref b2), (.ref b2)])) _
    refine XS.iload X10.here hx rfl (hb hby at_123) rfl ?_
    show Steps p.tables e below (T10.setTop (mkF m 125 #[.val (.int p1), .val (.int p2), .val (.int p3), .val (.long q4), .second, .val (.long q5), .second, .val (.int (Voff p1)), .val (.int (Vs p1)), .val (.int (Vn p2)), .val (.int (Vd p3)), .unset, .unset, .unset, .unset, .unset] [(.int (Vs p1)), (.int (Voff p1)), (.int (4 : Int32)), (.int (4 : Int32)), (.ref b2), (.ref b2)])) _
    refine XS.iload X10.here hx rfl (hb hby at_125) rfl ?_
    show Steps p.tables e below (T10.setTop (mkF m 127 #[.val (.int p1), .val (.int p2), .val (.int p3), .val (.long q4), .second, .val (.long q5), .second, .val (.int (Voff p1)), .val (.int (Vs p1)), .val (.int (Vn p2)), .val (.int (Vd p3)), .unset, .unset, .unset, .unset, .unset] [(.int (Vn p2)), (.int (Vs p1)), (.int (Voff p1)), (.int (4 : Int32)), (.int (4 : Int32)), (.ref b2), (.ref b2)])) _
    refine XS.iload X10.here hx rfl (hb hby at_127) rfl ?_
    show Steps p.tables e below (T10.setTop (mkF m 129 #[.val (.int p1), .val (.int p2), .val (.int p3), .val (.long q4), .second, .val (.long q5), .second, .val (.int (Voff p1)), .val (.int (Vs p1)), .val (.int (Vn p2)), .val (.int (Vd p3)), .unset, .unset, .unset, .unset, .unset] [(.int (Vd p3)), (.int (Vn p2)), (.int (Vs p1)), (.int (Voff p1)), (.int (4 : Int32)), (.int (4 : Int32)), (.ref b2), (.ref b2)])) _
    refine XS.lloadN X10.here hx rfl (hb hby at_129) rfl ?_
    show Steps p.tables e below (T10.setTop (mkF m 130 #[.val (.int p1), .val (.int p2), .val (.int p3), .val (.long q4), .second, .val (.long q5), .second, .val (.int (Voff p1)), .val (.int (Vs p1)), .val (.int (Vn p2)), .val (.int (Vd p3)), .unset, .unset, .unset, .unset, .unset] [(.long q4), (.int (Vd p3)), (.int (Vn p2)), (.int (Vs p1)), (.int (Voff p1)), (.int (4 : Int32)), (.int (4 : Int32)), (.ref b2), (.ref b2)])) _
    refine XS.lload X10.here hx rfl (hb hby at_130) rfl ?_
    show Steps p.tables e below (T10.setTop (mkF m 132 #[.val (.int p1), .val (.int p2), .val (.int p3), .val (.long q4), .second, .val (.long q5), .second, .val (.int (Voff p1)), .val (.int (Vs p1)), .val (.int (Vn p2)), .val (.int (Vd p3)), .unset, .unset, .unset, .unset, .unset] [(.long q5), (.long q4), (.int (Vd p3)), (.int (Vn p2)), (.int (Vs p1)), (.int (Voff p1)), (.int (4 : Int32)), (.int (4 : Int32)), (.ref b2), (.ref b2)])) _
    refine st11 _ ?_
    show Steps p.tables e below (T11.setTop (mkF m 135 #[.val (.int p1), .val (.int p2), .val (.int p3), .val (.long q4), .second, .val (.long q5), .second, .val (.int (Voff p1)), .val (.int (Vs p1)), .val (.int (Vn p2)), .val (.int (Vd p3)), .unset, .unset, .unset, .unset, .unset] [(.int (F1 (4 : Int32) (Voff p1) (Vs p1) (Vn p2) (Vd p3) q4 q5)), (.int (4 : Int32)), (.ref b2), (.ref b2)])) _
    refine st12 _ ?_
    show Steps p.tables e below (T12.setTop (mkF m 136 #[.val (.int p1), .val (.int p2), .val (.int p3), .val (.long q4), .second, .val (.long q5), .second, .val (.int (Voff p1)), .val (.int (Vs p1)), .val (.int (Vn p2)), .val (.int (Vd p3)), .unset, .unset, .unset, .unset, .unset] [(.ref b2)])) _
    refine XS.dup X12.here hx rfl (hb hby at_136) rfl rfl ?_
    show Steps p.tables e below (T12.setTop (mkF m 137 #[.val (.int p1), .val (.int p2), .val (.int p3), .val (.long q4), .second, .val (.long q5), .second, .val (.int (Voff p1)), .val (.int (Vs p1)), .val (.int (Vn p2)), .val (.int (Vd p3)), .unset, .unset, .unset, .unset, .unset] [(.ref b2), (.ref b2)])) _
    refine XS.iconst X12.here hx rfl (hb hby at_137) ?_
    show Steps p.tables e below (T12.setTop (mkF m 138 #[.val (.int p1), .val (.int p2), .val (.int p3), .val (.long q4), .second, .val (.long q5), .second, .val (.int (Voff p1)), .val (.int (Vs p1)), .val (.int (Vn p2)), .val (.int (Vd p3)), .unset, .unset, .unset, .unset, .unset] [(.int (5 : Int32)), (.ref b2), (.ref b2)])) _
    refine XS.iconst X12.here hx rfl (hb hby at_138) ?_
    show Steps p.tables e below (T12.setTop (mkF m 139 #[.val (.int p1), .val (.int p2), .val (.int p3), .val (.long q4), .second, .val (.long q5), .second, .val (.int (Voff p1)), .val (.int (Vs p1)), .val (.int (Vn p2)), .val (.int (Vd p3)), .unset, .unset, .unset, .unset, .unset] [(.int (5 : Int32)), (.int (5 : Int32)), (.ref b2), (.ref b2)])) _
    refine XS.iload X12.here hx rfl (hb hby at_139) rfl ?_
    show Steps p.tables e below (T12.setTop (mkF m 141 #[.val (.int p1), .val (.int p2), .val (.int p3), .val (.long q4), .second, .val (.long q5), .second, .val (.int (Voff p1)), .val (.int (Vs p1)), .val (.int (Vn p2)), .val (.int (Vd p3)), .unset, .unset, .unset, .unset, .unset] [(.int (Voff p1)), (.int (5 : Int32)), (.int (5 : Int32)), (.ref b2), (.ref b2)])) _
    refine XS.iload X12.here hx rfl (hb hby at_141) rfl ?_
    show Steps p.tables e below (T12.setTop (mkF m 143 #[.val (.int p1), .val (.int p2), .val (.int p3), .val (.long q4), .second, .val (.long q5), .second, .val (.int (Voff p1)), .val (.int (Vs p1)), .val (.int (Vn p2)), .val (.int (Vd p3)), .unset, .unset, .unset, .unset, .unset] [(.int (Vs p1)), (.int (Voff p1)), (.int (5 : Int32)), (.int (5 : Int32)), (.ref b2), (.ref b2)])) _
    refine XS.iload X12.here hx rfl (hb hby at_143) rfl ?_
    show Steps p.tables e below (T12.setTop (mkF m 145 #[.val (.int p1), .val (.int p2), .val (.int p3), .val (.long q4), .second, .val (.long q5), .second, .val (.int (Voff p1)), .val (.int (Vs p1)), .val (.int (Vn p2)), .val (.int (Vd p3)), .unset, .unset, .unset, .unset, .unset] [(.int (Vn p2)), (.int (Vs p1)), (.int (Voff p1)), (.int (5 : Int32)), (.int (5 : Int32)), (.ref b2), (.ref b2)])) _
    refine XS.iload X12.here hx rfl (hb hby at_145) rfl ?_
    show Steps p.tables e below (T12.setTop (mkF m 147 #[.val (.int p1), .val (.int p2), .val (.int p3), .val (.long q4), .second, .val (.long q5), .second, .val (.int (Voff p1)), .val (.int (Vs p1)), .val (.int (Vn p2)), .val (.int (Vd p3)), .unset, .unset, .unset, .unset, .unset] [(.int (Vd p3)), (.int (Vn p2)), (.int (Vs p1)), (.int (Voff p1)), (.int (5 : Int32)), (.int (5 : Int32)), (.ref b2), (.ref b2)])) _
    refine XS.lloadN X12.here hx rfl (hb hby at_147) rfl ?_
    show Steps p.tables e below (T12.setTop (mkF m 148 #[.val (.int p1), .val (.int p2), .val (.int p3), .val (.long q4), .second, .val (.long q5), .second, .val (.int (Voff p1)), .val (.int (Vs p1)), .val (.int (Vn p2)), .val (.int (Vd p3)), .unset, .unset, .unset, .unset, .unset] [(.long q4), (.int (Vd p3)), (.int (Vn p2)), (.int (Vs p1)), (.int (Voff p1)), (.int (5 : Int32)), (.int (5 : Int32)), (.ref b2), (.ref b2)])) _
    refine XS.lload X12.here hx rfl (hb hby at_148) rfl ?_
    show Steps p.tables e below (T12.setTop (mkF m 150 #[.val (.int p1), .val (.int p2), .val (.int p3), .val (.long q4), .second, .val (.long q5), .second, .val (.int (Voff p1)), .val (.int (Vs p1)), .val (.int (Vn p2)), .val (.int (Vd p3)), .unset, .unset, .unset, .unset, .unset] [(.long q5), (.long q4), (.int (Vd p3)), (.int (Vn p2)), (.int (Vs p1)), (.int (Voff p1)), (.int (5 : Int32)), (.int (5 : Int32)), (.ref b2), (.ref b2)])) _
    refine st13 _ ?_
    show Steps p.tables e below (T13.setTop (mkF m 153 #[.val (.int p1), .val (.int p2), .val (.int p3), .val (.long q4), .second, .val (.long q5), .second, .val (.int (Voff p1)), .val (.int (Vs p1)), .val (.int (Vn p2)), .val (.int (Vd p3)), .unset, .unset, .unset, .unset, .unset] [(.int (F1 (5 : Int32) (Voff p1) (Vs p1) (Vn p2) (Vd p3) q4 q5)), (.int (5 : Int32)), (.ref b2), (.ref b2)])) _
    refine st14 _ ?_
    show Steps p.tables e below (T14.setTop (mkF m 154 #[.val (.int p1), .val (.int p2), .val (.int p3), .val (.long q4), .second, .val (.long q5), .second, .val (.int (Voff p1)), .val (.int (Vs p1)), .val (.int (Vn p2)), .val (.int (Vd p3)), .unset, .unset, .unset, .unset, .unset] [(.ref b2)])) _
    refine XS.dup X14.here hx rfl (hb hby at_154) rfl rfl ?_
    show Steps p.tables e below (T14.setTop (mkF m 155 #[.val (.int p1), .val (.int p2), .val (.int p3), .val (.long q4), .second, .val (.long q5), .second, .val (.int (Voff p1)), .val (.int (Vs p1)), .val (.int (Vn p2)), .val (.int (Vd p3)), .unset, .unset, .unset, .unset, .unset] [(.ref b2), (.ref b2)])) _
    refine XS.bipush X14.here hx rfl (hb hby at_155) ?_
    show Steps p.tables e below (T14.setTop (mkF m 157 #[.val (.int p1), .val (.int p2), .val (.int p3), .val (.long q4), .second, .val (.long q5), .second, .val (.int (Voff p1)), .val (.int (Vs p1)), .val (.int (Vn p2)), .val (.int (Vd p3)), .unset, .unset, .unset, .unset, .unset] [(.int (6 : Int32)), (.ref b2), (.ref b2)])) _
    refine XS.bipush X14.here hx rfl (hb hby at_157) ?_
    show Steps p.tables e below (T14.setTop (mkF m 159 #[.val (.int p1), .val (.int p2), .val (.int p3), .val (.long q4), .second, .val (.long q5), .second, .val (.int (Voff p1)), .val (.int (Vs p1)), .val (.int (Vn p2)), .val (.int (Vd p3)), .unset, .unset, .unset, .unset, .unset] [(.int (6 : Int32)), (.int (6 : Int32)), (.ref b2), (.ref b2)])) _
    refine XS.iload X14.here hx rfl (hb hby at_159) rfl ?_
    show Steps p.tables e below (T14.setTop (mkF m 161 #[.val (.int p1), .val (.int p2), .val (.int p3), .val (.long q4), .second, .val (.long q5), .second, .val (.int (Voff p1)), .val (.int (Vs p1)), .val (.int (Vn p2)), .val (.int (Vd p3)), .unset, .unset, .unset, .unset, .unset] [(.int (Voff p1)), (.int (6 : Int32)), (.int (6 : Int32)), (.ref b2), (.ref b2)])) _
    refine XS.iload X14.here hx rfl (hb hby at_161) rfl ?_
    show Steps p.tables e below (T14.setTop (mkF m 163 #[.val (.int p1), .val (.int p2), .val (.int p3), .val (.long q4), .second, .val (.long q5), .second, .val (.int (Voff p1)), .val (.int (Vs p1)), .val (.int (Vn p2)), .val (.int (Vd p3)), .unset, .unset, .unset, .unset, .unset] [(.int (Vs p1)), (.int (Voff p1)), (.int (6 : Int32)), (.int (6 : Int32)), (.ref b2), (.ref b2)])) _
    refine XS.iload X14.here hx rfl (hb hby at_163) rfl ?_
    show Steps p.tables e below (T14.setTop (mkF m 165 #[.val (.int p1), .val (.int p2), .val (.int p3), .val (.long q4), .second, .val (.long q5), .second, .val (.int (Voff p1)), .val (.int (Vs p1)), .val (.int (Vn p2)), .val (.int (Vd p3)), .unset, .unset, .unset, .unset, .unset] [(.int (Vn p2)), (.int (Vs p1)), (.int (Voff p1)), (.int (6 : Int32)), (.int (6 : Int32)), (.ref b2), (.ref b2)])) _
    refine XS.iload X14.here hx rfl (hb hby at_165) rfl ?_
    show Steps p.tables e below (T14.setTop (mkF m 167 #[.val (.int p1), .val (.int p2), .val (.int p3), .val (.long q4), .second, .val (.long q5), .second, .val (.int (Voff p1)), .val (.int (Vs p1)), .val (.int (Vn p2)), .val (.int (Vd p3)), .unset, .unset, .unset, .unset, .unset] [(.int (Vd p3)), (.int (Vn p2)), (.int (Vs p1)), (.int (Voff p1)), (.int (6 : Int32)), (.int (6 : Int32)), (.ref b2), (.ref b2)])) _
    refine XS.lloadN X14.here hx rfl (hb hby at_167) rfl ?_
    show Steps p.tables e below (T14.setTop (mkF m 168 #[.val (.int p1), .val (.int p2), .val (.int p3), .val (.long q4), .second, .val (.long q5), .second, .val (.int (Voff p1)), .val (.int (Vs p1)), .val (.int (Vn p2)), .val (.int (Vd p3)), .unset, .unset, .unset, .unset, .unset] [(.long q4), (.int (Vd p3)), (.int (Vn p2)), (.int (Vs p1)), (.int (Voff p1)), (.int (6 : Int32)), (.int (6 : Int32)), (.ref b2), (.ref b2)])) _
    refine XS.lload X14.here hx rfl (hb hby at_168) rfl ?_
    show Steps p.tables e below (T14.setTop (mkF m 170 #[.val (.int p1), .val (.int p2), .val (.int p3), .val (.long q4), .second, .val (.long q5), .second, .val (.int (Voff p1)), .val (.int (Vs p1)), .val (.int (Vn p2)), .val (.int (Vd p3)), .unset, .unset, .unset, .unset, .unset] [(.long q5), (.long q4), (.int (Vd p3)), (.int (Vn p2)), (.int (Vs p1)), (.int (Voff p1)), (.int (6 : Int32)), (.int (6 : Int32)), (.ref b2), (.ref b2)])) _
    refine st15 _ ?_
    show Steps p.tables e below (T15.setTop (mkF m 173 #[.val (.int p1), .val (.int p2), .val (.int p3), .val (.long q4), .second, .val (.long q5), .second, .val (.int (Voff p1)), .val (.int (Vs p1)), .val (.int (Vn p2)), .val (.int (Vd p3)), .unset, .unset, .unset, .unset, .unset] [(.int (F1 (6 : Int32) (Voff p1) (Vs p1) (Vn p2) (Vd p3) q4 q5)), (.int (6 : Int32)), (.ref b2), (.ref b2)])) _
    refine st16 _ ?_
    show Steps p.tables e below (T16.setTop (mkF m 174 #[.val (.int p1), .val (.int p2), .val (.int p3), .val (.long q4), .second, .val (.long q5), .second, .val (.int (Voff p1)), .val (.int (Vs p1)), .val (.int (Vn p2)), .val (.int (Vd p3)), .unset, .unset, .unset, .unset, .unset] [(.ref b2)])) _
    refine XS.dup X16.here hx rfl (hb hby at_174) rfl rfl ?_
    show Steps p.tables e below (T16.setTop (mkF m 175 #[.val (.int p1), .val (.int p2), .val (.int p3), .val (.long q4), .second, .val (.long q5), .second, .val (.int (Voff p1)), .val (.int (Vs p1)), .val (.int (Vn p2)), .val (.int (Vd p3)), .unset, .unset, .unset, .unset, .unset] [(.ref b2), (.ref b2)])) _
    refine XS.bipush X16.here hx rfl (hb hby at_175) ?_
    show Steps p.tables e below (T16.setTop (mkF m 177 #[.val (.int p1), .val (.int p2), .val (.int p3), .val (.long q4), .second, .val (.long q5), .second, .val (.int (Voff p1)), .val (.int (Vs p1)), .val (.int (Vn p2)), .val (.int (Vd p3)), .unset, .unset, .unset, .unset, .unset] [(.int (7 : Int32)), (.ref b2), (.ref b2)])) _
    refine XS.bipush X16.here hx rfl (hb hby at_177) ?_
    show Steps p.tables e below (T16.setTop (mkF m 179 #[.val (.int p1), .val (.int p2), .val (.int p3), .val (.long q4), .second, .val (.long q5), .second, .val (.int (Voff p1)), .val (.int (Vs p1)), .val (.int (Vn p2)), .val (.int (Vd p3)), .unset, .unset, .unset, .unset, .unset] [(.int (7 : Int32)), (.int (7 : Int32)), (.ref b2), (.ref b2)])) _
    refine XS.iload X16.here hx rfl (hb hby at_179) rfl ?_
    show Steps p.tables e below (T16.setTop (mkF m 181 #[.val (.int p1), .val (.int p2), .val (.int p3), .val (.long q4), .second, .val (.long q5), .second, .val (.int (Voff p1)), .val (.int (Vs p1)), .val (.int (Vn p2)), .val (.int (Vd p3)), .unset, .unset, .unset, .unset, .unset] [(.int (Voff p1)), (.int (7 : Int32)), (.int (7 : Int32)), (.ref b2), (.ref b2)])) _
    refine XS.iload X16.here hx rfl (hb hby at_181) rfl ?_
    show Steps p.tables e below (T16.setTop (mkF m 183 #[.val (.int p1), .val (.int p2), .val (.int p3), .val (.long q4), .second, .val (.long q5), .second, .val (.int (Voff p1)), .val (.int (Vs p1)), .val (.int (Vn p2)), .val (.int (Vd p3)), .unset, .unset, .unset, .unset, .unset] [(.int (Vs p1)), (.int (Voff p1)), (.int (7 : Int32)), (.int (7 : Int32)), (.ref b2), (.ref b2)])) _
    refine XS.iload X16.here hx rfl (hb hby at_183) rfl ?_
    show Steps p.tables e below (T16.setTop (mkF m 185 #[.val (.int p1), .val (.int p2), .val (.int p3), .val (.long q4), .second, .val (.long q5), .second, .val (.int (Voff p1)), .val (.int (Vs p1)), .val (.int (Vn p2)), .val (.int (Vd p3)), .unset, .unset, .unset, .unset, .unset] [(.int (Vn p2)), (.int (Vs p1)), (.int (Voff p1)), (.int (7 : Int32)), (.int (7 : Int32)), (.ref b2), (.ref b2)])) _
    refine XS.iload X16.here hx rfl (hb hby at_185) rfl ?_
    show Steps p.tables e below (T16.setTop (mkF m 187 #[.val (.int p1), .val (.int p2), .val (.int p3), .val (.long q4), .second, .val (.long q5), .second, .val (.int (Voff p1)), .val (.int (Vs p1)), .val (.int (Vn p2)), .val (.int (Vd p3)), .unset, .unset, .unset, .unset, .unset] [(.int (Vd p3)), (.int (Vn p2)), (.int (Vs p1)), (.int (Voff p1)), (.int (7 : Int32)), (.int (7 : Int32)), (.ref b2), (.ref b2)])) _
    refine XS.lloadN X16.here hx rfl (hb hby at_187) rfl ?_
    show Steps p.tables e below (T16.setTop (mkF m 188 #[.val (.int p1), .val (.int p2), .val (.int p3), .val (.long q4), .second, .val (.long q5), .second, .val (.int (Voff p1)), .val (.int (Vs p1)), .val (.int (Vn p2)), .val (.int (Vd p3)), .unset, .unset, .unset, .unset, .unset] [(.long q4), (.int (Vd p3)), (.int (Vn p2)), (.int (Vs p1)), (.int (Voff p1)), (.int (7 : Int32)), (.int (7 : Int32)), (.ref b2), (.ref b2)])) _
    refine XS.lload X16.here hx rfl (hb hby at_188) rfl ?_
    show Steps p.tables e below (T16.setTop (mkF m 190 #[.val (.int p1), .val (.int p2), .val (.int p3), .val (.long q4), .second, .val (.long q5), .second, .val (.int (Voff p1)), .val (.int (Vs p1)), .val (.int (Vn p2)), .val (.int (Vd p3)), .unset, .unset, .unset, .unset, .unset] [(.long q5), (.long q4), (.int (Vd p3)), (.int (Vn p2)), (.int (Vs p1)), (.int (Voff p1)), (.int (7 : Int32)), (.int (7 : Int32)), (.ref b2), (.ref b2)])) _
    refine st17 _ ?_
    show Steps p.tables e below (T17.setTop (mkF m 193 #[.val (.int p1), .val (.int p2), .val (.int p3), .val (.long q4), .second, .val (.long q5), .second, .val (.int (Voff p1)), .val (.int (Vs p1)), .val (.int (Vn p2)), .val (.int (Vd p3)), .unset, .unset, .unset, .unset, .unset] [(.int (F1 (7 : Int32) (Voff p1) (Vs p1) (Vn p2) (Vd p3) q4 q5)), (.int (7 : Int32)), (.ref b2), (.ref b2)])) _
    refine st18 _ ?_
    show Steps p.tables e below (T18.setTop (mkF m 194 #[.val (.int p1), .val (.int p2), .val (.int p3), .val (.long q4), .second, .val (.long q5), .second, .val (.int (Voff p1)), .val (.int (Vs p1)), .val (.int (Vn p2)), .val (.int (Vd p3)), .unset, .unset, .unset, .unset, .unset] [(.ref b2)])) _
    refine XS.dup X18.here hx rfl (hb hby at_194) rfl rfl ?_
    show Steps p.tables e below (T18.setTop (mkF m 195 #[.val (.int p1), .val (.int p2), .val (.int p3), .val (.long q4), .second, .val (.long q5), .second, .val (.int (Voff p1)), .val (.int (Vs p1)), .val (.int (Vn p2)), .val (.int (Vd p3)), .unset, .unset, .unset, .unset, .unset] [(.ref b2), (.ref b2)])) _
    refine XS.bipush X18.here hx rfl (hb hby at_195) ?_
    show Steps p.tables e below (T18.setTop (mkF m 197 #[.val (.int p1), .val (.int p2), .val (.int p3), .val (.long q4), .second, .val (.long q5), .second, .val (.int (Voff p1)), .val (.int (Vs p1)), .val (.int (Vn p2)), .val (.int (Vd p3)), .unset, .unset, .unset, .unset, .unset] [(.int (8 : Int32)), (.ref b2), (.ref b2)])) _
    refine XS.bipush X18.here hx rfl (hb hby at_197) ?_
    show Steps p.tables e below (T18.setTop (mkF m 199 #[.val (.int p1), .val (.int p2), .val (.int p3), .val (.long q4), .second, .val (.long q5), .second, .val (.int (Voff p1)), .val (.int (Vs p1)), .val (.int (Vn p2)), .val (.int (Vd p3)), .unset, .unset, .unset, .unset, .unset] [(.int (8 : Int32)), (.int (8 : Int32)), (.ref b2), (.ref b2)])) _
    refine XS.iload X18.here hx rfl (hb hby at_199) rfl ?_
    show Steps p.tables e below (T18.setTop (mkF m 201 #[.val (.int p1), .val (.int p2), .val (.int p3), .val (.long q4), .second, .val (.long q5), .second, .val (.int (Voff p1)), .val (.int (Vs p1)), .val (.int (Vn p2)), .val (.int (Vd p3)), .unset, .unset, .unset, .unset, .unset] [(.int (Voff p1)), (.int (8 : Int32)), (.int (8 : Int32)), (.ref b2), (.ref b2)])) _
    refine XS.iload X18.here hx rfl (hb hby at_201) rfl ?_
    show Steps p.tables e below (T18.setTop (mkF m 203 #[.val (.int p1), .val (.int p2), .val (.int p3), .val (.long q4), .second, .val (.long q5), .second, .val (.int (Voff p1)), .val (.int (Vs p1)), .val (.int (Vn p2)), .val (.int (Vd p3)), .unset, .unset, .unset, .unset, .unset] [(.int (Vs p1)), (.int (Voff p1)), (.int (8 : Int32)), (.int (8 : Int32)), (.ref b2), (.ref b2)])) _
    refine XS.iload X18.here hx rfl (hb hby at_203) rfl ?_
    show Steps p.tables e below (T18.setTop (mkF m 205 #[.val (.int p1), .val (.int p2), .val (.int p3), .val (.long q4), .second, .val (.long q5), .second, .val (.int (Voff p1)), .val (.int (Vs p1)), .val (.int (Vn p2)), .val (.int (Vd p3)), .unset, .unset, .unset, .unset, .unset] [(.int (Vn p2)), (.int (Vs p1)), (.int (Voff p1)), (.int (8 : Int32)), (.int (8 : Int32)), (.ref b2), (.ref b2)])) _
    refine XS.iload X18.here hx rfl (hb hby at_205) rfl ?_
    show Steps p.tables e below (T18.setTop (mkF m 207 #[.val (.int p1), .val (.int p2), .val (.int p3), .val (.long q4), .second, .val (.long q5), .second, .val (.int (Voff p1)), .val (.int (Vs p1)), .val (.int (Vn p2)), .val (.int (Vd p3)), .unset, .unset, .unset, .unset, .unset] [(.int (Vd p3)), (.int (Vn p2)), (.int (Vs p1)), (.int (Voff p1)), (.int (8 : Int32)), (.int (8 : Int32)), (.ref b2), (.ref b2)])) _
    refine XS.lloadN X18.here hx rfl (hb hby at_207) rfl ?_
    show Steps p.tables e below (T18.setTop (mkF m 208 #[.val (.int p1), .val (.int p2), .val (.int p3), .val (.long q4), .second, .val (.long q5), .second, .val (.int (Voff p1)), .val (.int (Vs p1)), .val (.int (Vn p2)), .val (.int (Vd p3)), .unset, .unset, .unset, .unset, .unset] [(.long q4), (.int (Vd p3)), (.int (Vn p2)), (.int (Vs p1)), (.int (Voff p1)), (.int (8 : Int32)), (.int (8 : Int32)), (.ref b2), (.ref b2)])) _
    refine XS.lload X18.here hx rfl (hb hby at_208) rfl ?_
    show Steps p.tables e below (T18.setTop (mkF m 210 #[.val (.int p1), .val (.int p2), .val (.int p3), .val (.long q4), .second, .val (.long q5), .second, .val (.int (Voff p1)), .val (.int (Vs p1)), .val (.int (Vn p2)), .val (.int (Vd p3)), .unset, .unset, .unset, .unset, .unset] [(.long q5), (.long q4), (.int (Vd p3)), (.int (Vn p2)), (.int (Vs p1)), (.int (Voff p1)), (.int (8 : Int32)), (.int (8 : Int32)), (.ref b2), (.ref b2)])) _
    refine st19 _ ?_
    show Steps p.tables e below (T19.setTop (mkF m 213 #[.val (.int p1), .val (.int p2), .val (.int p3), .val (.long q4), .second, .val (.long q5), .second, .val (.int (Voff p1)), .val (.int (Vs p1)), .val (.int (Vn p2)), .val (.int (Vd p3)), .unset, .unset, .unset, .unset, .unset] [(.int (F1 (8 : Int32) (Voff p1) (Vs p1) (Vn p2) (Vd p3) q4 q5)), (.int (8 : Int32)), (.ref b2), (.ref b2)])) _
    refine st20 _ ?_
    show Steps p.tables e below (T20.setTop (mkF m 214 #[.val (.int p1), .val (.int p2), .val (.int p3), .val (.long q4), .second, .val (.long q5), .second, .val (.int (Voff p1)), .val (.int (Vs p1)), .val (.int (Vn p2)), .val (.int (Vd p3)), .unset, .unset, .unset, .unset, .unset] [(.ref b2)])) _
    refine XS.dup X20.here hx rfl (hb hby at_214) rfl rfl ?_
    show Steps p.tables e below (T20.setTop (mkF m 215 #[.val (.int p1), .val (.int p2), .val (.int p3), .val (.long q4), .second, .val (.long q5), .second, .val (.int (Voff p1)), .val (.int (Vs p1)), .val (.int (Vn p2)), .val (.int (Vd p3)), .unset, .unset, .unset, .unset, .unset] [(.ref b2), (.ref b2)])) _
    refine XS.bipush X20.here hx rfl (hb hby at_215) ?_
    show Steps p.tables e below (T20.setTop (mkF m 217 #[.val (.int p1), .val (.int p2), .val (.int p3), .val (.long q4), .second, .val (.long q5), .second, .val (.int (Voff p1)), .val (.int (Vs p1)), .val (.int (Vn p2)), .val (.int (Vd p3)), .unset, .unset, .unset, .unset, .unset] [(.int (9 : Int32)), (.ref b2), (.ref b2)])) _
    refine XS.bipush X20.here hx rfl (hb hby at_217) ?_
    show Steps p.tables e below (T20.setTop (mkF m 219 #[.val (.int p1), .val (.int p2), .val (.int p3), .val (.long q4), .second, .val (.long q5), .second, .val (.int (Voff p1)), .val (.int (Vs p1)), .val (.int (Vn p2)), .val (.int (Vd p3)), .unset, .unset, .unset, .unset, .unset] [(.int (9 : Int32)), (.int (9 : Int32)), (.ref b2), (.ref b2)])) _
    refine XS.iload X20.here hx rfl (hb hby at_219) rfl ?_
    show Steps p.tables e below (T20.setTop (mkF m 221 #[.val (.int p1), .val (.int p2), .val (.int p3), .val (.long q4), .second, .val (.long q5), .second, .val (.int (Voff p1)), .val (.int (Vs p1)), .val (.int (Vn p2)), .val (.int (Vd p3)), .unset, .unset, .unset, .unset, .unset] [(.int (Voff p1)), (.int (9 : Int32)), (.int (9 : Int32)), (.ref b2), (.ref b2)])) _
    refine XS.iload X20.here hx rfl (hb hby at_221) rfl ?_
    show Steps p.tables e below (T20.setTop (mkF m 223 #[.val (.int p1), .val (.int p2), .val (.int p3), .val (.long q4), .second, .val (.long q5), .second, .val (.int (Voff p1)), .val (.int (Vs p1)), .val (.int (Vn p2)), .val (.int (Vd p3)), .unset, .unset, .unset, .unset, .unset] [(.int (Vs p1)), (.int (Voff p1)), (.int (9 : Int32)), (.int (9 : Int32)), (.ref b2), (.ref b2)])) _
    refine XS.iload X20.here hx rfl (hb hby at_223) rfl ?_
    show Steps p.tables e below (T20.setTop (mkF m 225 #[.val (.int p1), .val (.int p2), .val (.int p3), .val (.long q4), .second, .val (.long q5), .second, .val (.int (Voff p1)), .val (.int (Vs p1)), .val (.int (Vn p2)), .val (.int (Vd p3)), .unset, .unset, .unset, .unset, .unset] [(.int (Vn p2)), (.int (Vs p1)), (.int (Voff p1)), (.int (9 : Int32)), (.int (9 : Int32)), (.ref b2), (.ref b2)])) _
    refine XS.iload X20.here hx rfl (hb hby at_225) rfl ?_
    show Steps p.tables e below (T20.setTop (mkF m 227 #[.val (.int p1), .val (.int p2), .val (.int p3), .val (.long q4), .second, .val (.long q5), .second, .val (.int (Voff p1)), .val (.int (Vs p1)), .val (.int (Vn p2)), .val (.int (Vd p3)), .unset, .unset, .unset, .unset, .unset] [(.int (Vd p3)), (.int (Vn p2)), (.int (Vs p1)), (.int (Voff p1)), (.int (9 : Int32)), (.int (9 : Int32)), (.ref b2), (.ref b2)])) _
    refine XS.lloadN X20.here hx rfl (hb hby at_227) rfl ?_
    show Steps p.tables e below (T20.setTop (mkF m 228 #[.val (.int p1), .val (.int p2), .val (.int p3), .val (.long q4), .second, .val (.long q5), .second, .val (.int (Voff p1)), .val (.int (Vs p1)), .val (.int (Vn p2)), .val (.int (Vd p3)), .unset, .unset, .unset, .unset, .unset] [(.long q4), (.int (Vd p3)), (.int (Vn p2)), (.int (Vs p1)), (.int (Voff p1)), (.int (9 : Int32)), (.int (9 : Int32)), (.ref b2), (.ref b2)])) _
    refine XS.lload X20.here hx rfl (hb hby at_228) rfl ?_
    show Steps p.tables e below (T20.setTop (mkF m 230 #[.val (.int p1), .val (.int p2), .val (.int p3), .val (.long q4), .second, .val (.long q5), .second, .val (.int (Voff p1)), .val (.int (Vs p1)), .val (.int (Vn p2)), .val (.int (Vd p3)), .unset, .unset, .unset, .unset, .unset] [(.long q5), (.long q4), (.int (Vd p3)), (.int (Vn p2)), (.int (Vs p1)), (.int (Voff p1)), (.int (9 : Int32)), (.int (9 : Int32)), (.ref b2), (.ref b2)])) _
    refine st21 _ ?_
    show Steps p.tables e below (T21.setTop (mkF m 233 #[.val (.int p1), .val (.int p2), .val (.int p3), .val (.long q4), .second, .val (.long q5), .second, .val (.int (Voff p1)), .val (.int (Vs p1)), .val (.int (Vn p2)), .val (.int (Vd p3)), .unset, .unset, .unset, .unset, .unset] [(.int (F1 (9 : Int32) (Voff p1) (Vs p1) (Vn p2) (Vd p3) q4 q5)), (.int (9 : Int32)), (.ref b2), (.ref b2)])) _
    refine st22 _ ?_
    show Steps p.tables e below (T22.setTop (mkF m 234 #[.val (.int p1), .val (.int p2), .val (.int p3), .val (.long q4), .second, .val (.long q5), .second, .val (.int (Voff p1)), .val (.int (Vs p1)), .val (.int (Vn p2)), .val (.int (Vd p3)), .unset, .unset, .unset, .unset, .unset] [(.ref b2)])) _
    refine XS.dup X22.here hx rfl (hb hby at_234) rfl rfl ?_
    show Steps p.tables e below (T22.setTop (mkF m 235 #[.val (.int p1), .val (.int p2), .val (.int p3), .val (.long q4), .second, .val (.long q5), .second, .val (.int (Voff p1)), .val (.int (Vs p1)), .val (.int (Vn p2)), .val (.int (Vd p3)), .unset, .unset, .unset, .unset, .unset] [(.ref b2), (.ref b2)])) _
    refine XS.bipush X22.here hx rfl (hb hby at_235) ?_
    show Steps p.tables e below (T22.setTop (mkF m 237 #[.val (.int p1), .val (.int p2), .val (.int p3), .val (.long q4), .second, .val (.long q5), .second, .val (.int (Voff p1)), .val (.int (Vs p1)), .val (.int (Vn p2)), .val (.int (Vd p3)), .unset, .unset, .unset, .unset, .unset] [(.int (10 : Int32)), (.ref b2), (.ref b2)])) _
    refine XS.bipush X22.here hx rfl (hb hby at_237) ?_
    show Steps p.tables e below (T22.setTop (mkF m 239 #[.val (.int p1), .val (.int p2), .val (.int p3), .val (.long q4), .second, .val (.long q5), .second, .val (.int (Voff p1)), .val (.int (Vs p1)), .val (.int (Vn p2)), .val (.int (Vd p3)), .unset, .unset, .unset, .unset, .unset] [(.int (10 : Int32)), (.int (10 : Int32)), (.ref b2), (.ref b2)])) _
    refine XS.iload X22.here hx rfl (hb hby at_239) rfl ?_
    show Steps p.tables e below (T22.setTop (mkF m 241 #[.val (.int p1), .val (.int p2), .val (.int p3), .val (.long q4), .second, .val (.long q5), .second, .val (.int (Voff p1)), .val (.int (Vs p1)), .val (.int (Vn p2)), .val (.int (Vd p3)), .unset, .unset, .unset, .unset, .unset] [(.int (Voff p1)), (.int (10 : Int32)), (.int (10 : Int32)), (.ref b2), (.ref b2)])) _
    refine XS.iload X22.here hx rfl (hb hby at_241) rfl ?_
    show Steps p.tables e below (T22.setTop (mkF m 243 #[.val (.int p1), .val (.int p2), .val (.int p3), .val (.long q4), .second, .val (.long q5), .second, .val (.int (Voff p1)), .val (.int (Vs p1)), .val (.int (Vn p2)), .val (.int (Vd p3)), .unset, .unset, .unset, .unset, .unset] [(.int (Vs p1)), (.int (Voff p1)), (.int (10 : Int32)), (.int (10 : Int32)), (.ref b2), (.ref b2)])) _
    refine XS.iload X22.here hx rfl (hb hby at_243) rfl ?_
    show Steps p.tables e below (T22.setTop (mkF m 245 #[.val (.int p1), .val (.int p2), .val (.int p3), .val (.long q4), .second, .val (.long q5), .second, .val (.int (Voff p1)), .val (.int (Vs p1)), .val (.int (Vn p2)), .val (.int (Vd p3)), .unset, .unset, .unset, .unset, .unset] [(.int (Vn p2)), (.int (Vs p1)), (.int (Voff p1)), (.int (10 : Int32)), (.int (10 : Int32)), (.ref b2), (.ref b2)])) _
    refine XS.iload X22.here hx rfl (hb hby at_245) rfl ?_
    show Steps p.tables e below (T22.setTop (mkF m 247 #[.val (.int p1), .val (.int p2), .val (.int p3), .val (.long q4), .second, .val (.long q5), .second, .val (.int (Voff p1)), .val (.int (Vs p1)), .val (.int (Vn p2)), .val (.int (Vd p3)), .unset, .unset, .unset, .unset, .unset] [(.int (Vd p3)), (.int (Vn p2)), (.int (Vs p1)), (.int (Voff p1)), (.int (10 : Int32)), (.int (10 : Int32)), (.ref b2), (.ref b2)])) _
    refine XS.lloadN X22.here hx rfl (hb hby at_247) rfl ?_
    show Steps p.tables e below (T22.setTop (mkF m 248 #[.val (.int p1), .val (.int p2), .val (.int p3), .val (.long q4), .second, .val (.long q5), .second, .val (.int (Voff p1)), .val (.int (Vs p1)), .val (.int (Vn p2)), .val (.int (Vd p3)), .unset, .unset, .unset, .unset, .unset] [(.long q4), (.int (Vd p3)), (.int (Vn p2)), (.int (Vs p1)), (.int (Voff p1)), (.int (10 : Int32)), (.int (10 : Int32)), (.ref b2), (.ref b2)])) _
    refine XS.lload X22.here hx rfl (hb hby at_248) rfl ?_
    show Steps p.tables e below (T22.setTop (mkF m 250 #[.val (.int p1), .val (.int p2), .val (.int p3), .val (.long q4), .second, .val (.long q5), .second, .val (.int (Voff p1)), .val (.int (Vs p1)), .val (.int (Vn p2)), .val (.int (Vd p3)), .unset, .unset, .unset, .unset, .unset] [(.long q5), (.long q4), (.int (Vd p3)), (.int (Vn p2)), (.int (Vs p1)), (.int (Voff p1)), (.int (10 : Int32)), (.int (10 : Int32)), (.ref b2), (.ref b2)])) _
    refine st23 _ ?_
    show Steps p.tables e below (T23.setTop (mkF m 253 #[.val (.int p1), .val (.int p2), .val (.int p3), .val (.long q4), .second, .val (.long q5), .second, .val (.int (Voff p1)), .val (.int (Vs p1)), .val (.int (Vn p2)), .val (.int (Vd p3)), .unset, .unset, .unset, .unset, .unset] [(.int (F1 (10 : Int32) (Voff p1) (Vs p1) (Vn p2) (Vd p3) q4 q5)), (.int (10 : Int32)), (.ref b2), (.ref b2)])) _
    refine st24 _ ?_
    show Steps p.tables e below (T24.setTop (mkF m 254 #[.val (.int p1), .val (.int p2), .val (.int p3), .val (.long q4), .second, .val (.long q5), .second, .val (.int (Voff p1)), .val (.int (Vs p1)), .val (.int (Vn p2)), .val (.int (Vd p3)), .unset, .unset, .unset, .unset, .unset] [(.ref b2)])) _
    refine XS.dup X24.here hx rfl (hb hby at_254) rfl rfl ?_
    show Steps p.tables e below (T24.setTop (mkF m 255 #[.val (.int p1), .val (.int p2), .val (.int p3), .val (.long q4), .second, .val (.long q5), .second, .val (.int (Voff p1)), .val (.int (Vs p1)), .val (.int (Vn p2)), .val (.int (Vd p3)), .unset, .unset, .unset, .unset, .unset] [(.ref b2), (.ref b2)])) _
    refine XS.bipush X24.here hx rfl (hb hby at_255) ?_
    show Steps p.tables e below (T24.setTop (mkF m 257 #[.val (.int p1), .val (.int p2), .val (.int p3), .val (.long q4), .second, .val (.long q5), .second, .val (.int (Voff p1)), .val (.int (Vs p1)), .val (.int (Vn p2)), .val (.int (Vd p3)), .unset, .unset, .unset, .unset, .unset] [(.int (11 : Int32)), (.ref b2), (.ref b2)])) _
    refine XS.bipush X24.here hx rfl (hb hby at_257) ?_
    show Steps p.tables e below (T24.setTop (mkF m 259 #[.val (.int p1), .val (.int p2), .val (.int p3), .val (.long q4), .second, .val (.long q5), .second, .val (.int (Voff p1)), .val (.int (Vs p1)), .val (.int (Vn p2)), .val (.int (Vd p3)), .unset, .unset, .unset, .unset, .unset] [(.int (11 : Int32)), (.int (11 : Int32)), (.ref b2), (.ref b2)])) _
    refine XS.iload X24.here hx rfl (hb hby at_259) rfl ?_
    show Steps p.tables e below (T24.setTop (mkF m 261 #[.val (.int p1), .val (.int p2), .val (.int p3), .val (.long q4), .second, .val (.long q5), .second, .val (.int (Voff p1)), .val (.int (Vs p1)), .val (.int (Vn p2)), .val (.int (Vd p3)), .unset, .unset, .unset, .unset, .unset] [(.int (Voff p1)), (.int (11 : Int32)), (.int (11 : Int32)), (.ref b2), (.ref b2)])) _
    refine XS.iload X24.here hx rfl (hb hby at_261) rfl ?_
    show Steps p.tables e below (T24.setTop (mkF m 263 #[.val (.int p1), .val (.int p2), .val (.int p3), .val (.long q4), .second, .val (.long q5), .second, .val (.int (Voff p1)), .val (.int (Vs p1)), .val (.int (Vn p2)), .val (.int (Vd p3)), .unset, .unset, .unset, .unset, .unset] [(.int (Vs p1)), (.int (Voff p1)), (.int (11 : Int32)), (.int (11 : Int32)), (.ref b2), (.ref b2)])) _
    refine XS.iload X24.here hx rfl (hb hby at_263) rfl ?_
    show Steps p.tables e below (T24.setTop (mkF m 265 #[.val (.int p1), .val (.int p2), .val (.int p3), .val (.long q4), .second, .val (.long q5), .second, .val (.int (Voff p1)), .val (.int (Vs p1)), .val (.int (Vn p2)), .val (.int (Vd p3)), .unset, .unset, .unset, .unset, .unset] [(.int (Vn p2)), (.int (Vs p1)), (.int (Voff p1)), (.int (11 : Int32)), (.int (11 : Int32)), (.ref b2), (.ref b2)])) _
    refine XS.iload X24.here hx rfl (hb hby at_265) rfl ?_
    show Steps p.tables e below (T24.setTop (mkF m 267 #[.val (.int p1), .val (.int p2), .val (.int p3), .val (.long q4), .second, .val (.long q5), .second, .val (.int (Voff p1)), .val (.int (Vs p1)), .val (.int (Vn p2)), .val (.int (Vd p3)), .unset, .unset, .unset, .unset, .unset] [(.int (Vd p3)), (.int (Vn p2)), (.int (Vs p1)), (.int (Voff p1)), (.int (11 : Int32)), (.int (11 : Int32)), (.ref b2), (.ref b2)])) _
    refine XS.lloadN X24.here hx rfl (hb hby at_267) rfl ?_
    show Steps p.tables e below (T24.setTop (mkF m 268 #[.val (.int p1), .val (.int p2), .val (.int p3), .val (.long q4), .second, .val (.long q5), .second, .val (.int (Voff p1)), .val (.int (Vs p1)), .val (.int (Vn p2)), .val (.int (Vd p3)), .unset, .unset, .unset, .unset, .unset] [(.long q4), (.int (Vd p3)), (.int (Vn p2)), (.int (Vs p1)), (.int (Voff p1)), (.int (11 : Int32)), (.int (11 : Int32)), (.ref b2), (.ref b2)])) _
    refine XS.lload X24.here hx rfl (hb hby at_268) rfl ?_
    show Steps p.tables e below (T24.setTop (mkF m 270 #[.val (.int p1), .val (.int p2), .val (.int p3), .val (.long q4), .second, .val (.long q5), .second, .val (.int (Voff p1)), .val (.int (Vs p1)), .val (.int (Vn p2)), .val (.int (Vd p3)), .unset, .unset, .unset, .unset, .unset] [(.long q5), (.long q4), (.int (Vd p3)), (.int (Vn p2)), (.int (Vs p1)), (.int (Voff p1)), (.int (11 : Int32)), (.int (11 : Int32)), (.ref b2), (.ref b2)])) _
    refine st25 _ ?_
    show Steps p.tables e below (T25.setTop (mkF m 273 #[.val (.int p1), .val (.int p2), .val (.int p3), .val (.long q4), .second, .val (.long q5), .second, .val (.int (Voff p1)), .val (.int (Vs p1)), .val (.int (Vn p2)), .val (.int (Vd p3)), .unset, .unset, .unset, .unset, .unset] [(.int (F1 (11 : Int32) (Voff p1) (Vs p1) (Vn p2) (Vd p3) q4 q5)), (.int (11 : Int32)), (.ref b2), (.ref b2)])) _
    refine st26 _ ?_
    show Steps p.tables e below (T26.setTop (mkF m 274 #[.val (.int p1), .val (.int p2), .val (.int p3), .val (.long q4), .second, .val (.long q5), .second, .val (.int (Voff p1)), .val (.int (Vs p1)), .val (.int (Vn p2)), .val (.int (Vd p3)), .unset, .unset, .unset, .unset, .unset] [(.ref b2)])) _
    refine XS.dup X26.here hx rfl (hb hby at_274) rfl rfl ?_
    show Steps p.tables e below (T26.setTop (mkF m 275 #[.val (.int p1), .val (.int p2), .val (.int p3), .val (.long q4), .second, .val (.long q5), .second, .val (.int (Voff p1)), .val (.int (Vs p1)), .val (.int (Vn p2)), .val (.int (Vd p3)), .unset, .unset, .unset, .unset, .unset] [(.ref b2), (.ref b2)])) _
    refine XS.bipush X26.here hx rfl (hb hby at_275) ?_
    show Steps p.tables e below (T26.setTop (mkF m 277 #[.val (.int p1), .val (.int p2), .val (.int p3), .val (.long q4), .second, .val (.long q5), .second, .val (.int (Voff p1)), .val (.int (Vs p1)), .val (.int (Vn p2)), .val (.int (Vd p3)), .unset, .unset, .unset, .unset, .unset] [(.int (12 : Int32)), (.ref b2), (.ref b2)])) _
    refine XS.bipush X26.here hx rfl (hb hby at_277) ?_
    show Steps p.tables e below (T26.setTop (mkF m 279 #[.val (.int p1), .val (.int p2), .val (.int p3), .val (.long q4), .second, .val (.long q5), .second, .val (.int (Voff p1)), .val (.int (Vs p1)), .val (.int (Vn p2)), .val (.int (Vd p3)), .unset, .unset, .unset, .unset, .unset] [(.int (12 : Int32)), (.int (12 : Int32)), (.ref b2), (.ref b2)])) _
    refine XS.iload X26.here hx rfl (hb hby at_279) rfl ?_
    show Steps p.tables e below (T26.setTop (mkF m 281 #[.val (.int p1), .val (.int p2), .val (.int p3), .val (.long q4), .second, .val (.long q5), .second, .val (.int (Voff p1)), .val (.int (Vs p1)), .val (.int (Vn p2)), .val (.int (Vd p3)), .unset, .unset, .unset, .unset, .unset] [(.int (Voff p1)), (.int (12 : Int32)), (.int (12 : Int32)), (.ref b2), (.ref b2)])) _
    refine XS.iload X26.here hx rfl (hb hby at_281) rfl ?_
    show Steps p.tables e below (T26.setTop (mkF m 283 #[.val (.int p1), .val (.int p2), .val (.int p3), .val (.long q4), .second, .val (.long q5), .second, .val (.int (Voff p1)), .val (.int (Vs p1)), .val (.int (Vn p2)), .val (.int (Vd p3)), .unset, .unset, .unset, .unset, .unset] [(.int (Vs p1)), (.int (Voff p1)), (.int (12 : Int32)), (.int (12 : Int32)), (.ref b2), (.ref b2)])) _
    refine XS.iload X26.here hx rfl (hb hby at_283) rfl ?_
    show Steps p.tables e below (T26.setTop (mkF m 285 #[.val (.int p1), .val (.int p2), .val (.int p3), .val (.long q4), .second, .val (.long q5), .second, .val (.int (Voff p1)), .val (.int (Vs p1)), .val (.int (Vn p2)), .val (.int (Vd p3)), .unset, .unset, .unset, .unset, .unset] [(.int (Vn p2)), (.int (Vs p1)), (.int (Voff p1)), (.int (12 : Int32)), (.int (12 : Int32)), (.ref b2), (.ref b2)])) _
    refine XS.iload X26.here hx rfl (hb hby at_285) rfl ?_
    show Steps p.tables e below (T26.setTop (mkF m 287 #[.val (.int p1), .val (.int p2), .val (.int p3), .val (.long q4), .second, .val (.long q5), .second, .val (.int (Voff p1)), .val (.int (Vs p1)), .val (.int (Vn p2)), .val (.int (Vd p3)), .unset, .unset, .unset, .unset, .unset] [(.int (Vd p3)), (.int (Vn p2)), (.int (Vs p1)), (.int (Voff p1)), (.int (12 : Int32)), (.int (12 : Int32)), (.ref b2), (.ref b2)])) _
    refine XS.lloadN X26.here hx rfl (hb hby at_287) rfl ?_
    show Steps p.tables e below (T26.setTop (mkF m 288 #[.val (.int p1), .val (.int p2), .val (.int p3), .val (.long q4), .second, .val (.long q5), .second, .val (.int (Voff p1)), .val (.int (Vs p1)), .val (.int (Vn p2)), .val (.int (Vd p3)), .unset, .unset, .unset, .unset, .unset] [(.long q4), (.int (Vd p3)), (.int (Vn p2)), (.int (Vs p1)), (.int (Voff p1)), (.int (12 : Int32)), (.int (12 : Int32)), (.ref b2), (.ref b2)])) _
    refine XS.lload X26.here hx rfl (hb hby at_288) rfl ?_
    show Steps p.tables e below (T26.setTop (mkF m 290 #[.val (.int p1), .val (.int p2), .val (.int p3), .val (.long q4), .second, .val (.long q5), .second, .val (.int (Voff p1)), .val (.int (Vs p1)), .val (.int (Vn p2)), .val (.int (Vd p3)), .unset, .unset, .unset, .unset, .unset] [(.long q5), (.long q4), (.int (Vd p3)), (.int (Vn p2)), (.int (Vs p1)), (.int (Voff p1)), (.int (12 : Int32)), (.int (12 : Int32)), (.ref b2), (.ref b2)])) _
    refine st27 _ ?_
    show Steps p.tables e below (T27.setTop (mkF m 293 #[.val (.int p1), .val (.int p2), .val (.int p3), .val (.long q4), .second, .val (.long q5), .second, .val (.int (Voff p1)), .val (.int (Vs p1)), .val (.int (Vn p2)), .val (.int (Vd p3)), .unset, .unset, .unset, .unset, .unset] [(.int (F1 (12 : Int32) (Voff p1) (Vs p1) (Vn p2) (Vd p3) q4 q5)), (.int (12 : Int32)), (.ref b2), (.ref b2)])) _
    refine st28 _ ?_
    show Steps p.tables e below (T28.setTop (mkF m 294 #[.val (.int p1), .val (.int p2), .val (.int p3), .val (.long q4), .second, .val (.long q5), .second, .val (.int (Voff p1)), .val (.int (Vs p1)), .val (.int (Vn p2)), .val (.int (Vd p3)), .unset, .unset, .unset, .unset, .unset] [(.ref b2)])) _
    refine XS.dup X28.here hx rfl (hb hby at_294) rfl rfl ?_
    show Steps p.tables e below (T28.setTop (mkF m 295 #[.val (.int p1), .val (.int p2), .val (.int p3), .val (.long q4), .second, .val (.long q5), .second, .val (.int (Voff p1)), .val (.int (Vs p1)), .val (.int (Vn p2)), .val (.int (Vd p3)), .unset, .unset, .unset, .unset, .unset] [(.ref b2), (.ref b2)])) _
    refine XS.bipush X28.here hx rfl (hb hby at_295) ?_
    show Steps p.tables e below (T28.setTop (mkF m 297 #[.val (.int p1), .val (.int p2), .val (.int p3), .val (.long q4), .second, .val (.long q5), .second, .val (.int (Voff p1)), .val (.int (Vs p1)), .val (.int (Vn p2)), .val (.int (Vd p3)), .unset, .unset, .unset, .unset, .unset] [(.int (13 : Int32)), (.ref b2), (.ref b2)])) _
    refine XS.bipush X28.here hx rfl (hb hby at_297) ?_
    show Steps p.tables e below (T28.setTop (mkF m 299 #[.val (.int p1), .val (.int p2), .val (.int p3), .val (.long q4), .second, .val (.long q5), .second, .val (.int (Voff p1)), .val (.int (Vs p1)), .val (.int (Vn p2)), .val (.int (Vd p3)), .unset, .unset, .unset, .unset, .unset] [(.int (13 : Int32)), (.int (13 : Int32)), (.ref b2), (.ref b2)])) _
    refine XS.iload X28.here hx rfl (hb hby at_299) rfl ?_
    show Steps p.tables e below (T28.setTop (mkF m 301 #[.val (.int p1), .val (.int p2), .val (.int p3), .val (.long q4), .second, .val (.long q5), .second, .val (.int (Voff p1)), .val (.int (Vs p1)), .val (.int (Vn p2)), .val (.int (Vd p3)), .unset, .unset, .unset, .unset, .unset] [(.int (Voff p1)), (.int (13 : Int32)), (.int (13 : Int32)), (.ref b2), (.ref b2)])) _
    refine XS.iload X28.here hx rfl (hb hby at_301) rfl ?_
    show Steps p.tables e below (T28.setTop (mkF m 303 #[.val (.int p1), .val (.int p2), .val (.int p3), .val (.long q4), .second, .val (.long q5), .second, .val (.int (Voff p1)), .val (.int (Vs p1)), .val (.int (Vn p2)), .val (.int (Vd p3)), .unset, .unset, .unset, .unset, .unset] [(.int (Vs p1)), (.int (Voff p1)), (.int (13 : Int32)), (.int (13 : Int32)), (.ref b2), (.ref b2)])) _
    refine XS.iload X28.here hx rfl (hb hby at_303) rfl ?_
    show Steps p.tables e below (T28.setTop (mkF m 305 #[.val (.int p1), .val (.int p2), .val (.int p3), .val (.long q4), .second, .val (.long q5), .second, .val (.int (Voff p1)), .val (.int (Vs p1)), .val (.int (Vn p2)), .val (.int (Vd p3)), .unset, .unset, .unset, .unset, .unset] [(.int (Vn p2)), (.int (Vs p1)), (.int (Voff p1)), (.int (13 : Int32)), (.int (13 : Int32)), (.ref b2), (.ref b2)])) _
    refine XS.iload X28.here hx rfl (hb hby at_305) rfl ?_
    show Steps p.tables e below (T28.setTop (mkF m 307 #[.val (.int p1), .val (.int p2), .val (.int p3), .val (.long q4), .second, .val (.long q5), .second, .val (.int (Voff p1)), .val (.int (Vs p1)), .val (.int (Vn p2)), .val (.int (Vd p3)), .unset, .unset, .unset, .unset, .unset] [(.int (Vd p3)), (.int (Vn p2)), (.int (Vs p1)), (.int (Voff p1)), (.int (13 : Int32)), (.int (13 : Int32)), (.ref b2), (.ref b2)])) _
    refine XS.lloadN X28.here hx rfl (hb hby at_307) rfl ?_
    show Steps p.tables e below (T28.setTop (mkF m 308 #[.val (.int p1), .val (.int p2), .val (.int p3), .val (.long q4), .second, .val (.long q5), .second, .val (.int (Voff p1)), .val (.int (Vs p1)), .val (.int (Vn p2)), .val (.int (Vd p3)), .unset, .unset, .unset, .unset, .unset] [(.long q4), (.int (Vd p3)), (.int (Vn p2)), (.int (Vs p1)), (.int (Voff p1)), (.int (13 : Int32)), (.int (13 : Int32)), (.ref b2), (.ref b2)])) _
    refine XS.lload X28.here hx rfl (hb hby at_308) rfl ?_
    show Steps p.tables e below (T28.setTop (mkF m 310 #[.val (.int p1), .val (.int p2), .val (.int p3), .val (.long q4), .second, .val (.long q5), .second, .val (.int (Voff p1)), .val (.int (Vs p1)), .val (.int (Vn p2)), .val (.int (Vd p3)), .unset, .unset, .unset, .unset, .unset] [(.long q5), (.long q4), (.int (Vd p3)), (.int (Vn p2)), (.int (Vs p1)), (.int (Voff p1)), (.int (13 : Int32)), (.int (13 : Int32)), (.ref b2), (.ref b2)])) _
    refine st29 _ ?_
    show Steps p.tables e below (T29.setTop (mkF m 313 #[.val (.int p1), .val (.int p2), .val (.int p3), .val (.long q4), .second, .val (.long q5), .second, .val (.int (Voff p1)), .val (.int (Vs p1)), .val (.int (Vn p2)), .val (.int (Vd p3)), .unset, .unset, .unset, .unset, .unset] [(.int (F1 (13 : Int32) (Voff p1) (Vs p1) (Vn p2) (Vd p3) q4 q5)), (.int (13 : Int32)), (.ref b2), (.ref b2)])) _
    refine st30 _ ?_
    show Steps p.tables e below (T30.setTop (mkF m 314 #[.val (.int p1), .val (.int p2), .val (.int p3), .val (.long q4), .second, .val (.long q5), .second, .val (.int (Voff p1)), .val (.int (Vs p1)), .val (.int (Vn p2)), .val (.int (Vd p3)), .unset, .unset, .unset, .unset, .unset] [(.ref b2)])) _
    refine XS.dup X30.here hx rfl (hb hby at_314) rfl rfl ?_
    show Steps p.tables e below (T30.setTop (mkF m 315 #[.val (.int p1), .val (.int p2), .val (.int p3), .val (.long q4), .second, .val (.long q5), .second, .val (.int (Voff p1)), .val (.int (Vs p1)), .val (.int (Vn p2)), .val (.int (Vd p3)), .unset, .unset, .unset, .unset, .unset] [(.ref b2), (.ref b2)])) _
    refine XS.bipush X30.here hx rfl (hb hby at_315) ?_
    show Steps p.tables e below (T30.setTop (mkF m 317 #[.val (.int p1), .val (.int p2), .val (.int p3), .val (.long q4), .second, .val (.long q5), .second, .val (.int (Voff p1)), .val (.int (Vs p1)), .val (.int (Vn p2)), .val (.int (Vd p3)), .unset, .unset, .unset, .unset, .unset] [(.int (14 : Int32)), (.ref b2), (.ref b2)])) _
    refine XS.bipush X30.here hx rfl (hb hby at_317) ?_
    show Steps p.tables e below (T30.setTop (mkF m 319 #[.val (.int p1), .val (.int p2), .val (.int p3), .val (.long q4), .second, .val (.long q5), .second, .val (.int (Voff p1)), .val (.int (Vs p1)), .val (.int (Vn p2)), .val (.int (Vd p3)), .unset, .unset, .unset, .unset, .unset] [(.int (14 : Int32)), (.int (14 : Int32)), (.ref b2), (.ref b2)])) _
    refine XS.iload X30.here hx rfl (hb hby at_319) rfl ?_
    show Steps p.tables e below (T30.setTop (mkF m 321 #[.val (.int p1), .val (.int p2), .val (.int p3), .val (.long q4), .second, .val (.long q5), .second, .val (.int (Voff p1)), .val (.int (Vs p1)), .val (.int (Vn p2)), .val (.int (Vd p3)), .unset, .unset, .unset, .unset, .unset] [(.int (Voff p1)), (.int (14 : Int32)), (.int (14 : Int32)), (.ref b2), (.ref b2)])) _
    refine XS.iload X30.here hx rfl (hb hby at_321) rfl ?_
    show Steps p.tables e below (T30.setTop (mkF m 323 #[.val (.int p1), .val (.int p2), .val (.int p3), .val (.long q4), .second, .val (.long q5), .second, .val (.int (Voff p1)), .val (.int (Vs p1)), .val (.int (Vn p2)), .val (.int (Vd p3)), .unset, .unset, .unset, .unset, .unset] [(.int (Vs p1)), (.int (Voff p1)), (.int (14 : Int32)), (.int (14 : Int32)), (.ref b2), (.ref b2)])) _
    refine XS.iload X30.here hx rfl (hb hby at_323) rfl ?_
    show Steps p.tables e below (T30.setTop (mkF m 325 #[.val (.int p1), .val (.int p2), .val (.int p3), .val (.long q4), .second, .val (.long q5), .second, .val (.int (Voff p1)), .val (.int (Vs p1)), .val (.int (Vn p2)), .val (.int (Vd p3)), .unset, .unset, .unset, .unset, .unset] [(.int (Vn p2)), (.int (Vs p1)), (.int (Voff p1)), (.int (14 : Int32)), (.int (14 : Int32)), (.ref b2), (.ref b2)])) _
    refine XS.iload X30.here hx rfl (hb hby at_325) rfl ?_
    show Steps p.tables e below (T30.setTop (mkF m 327 #[.val (.int p1), .val (.int p2), .val (.int p3), .val (.long q4), .second, .val (.long q5), .second, .val (.int (Voff p1)), .val (.int (Vs p1)), .val (.int (Vn p2)), .val (.int (Vd p3)), .unset, .unset, .unset, .unset, .unset] [(.int (Vd p3)), (.int (Vn p2)), (.int (Vs p1)), (.int (Voff p1)), (.int (14 : Int32)), (.int (14 : Int32)), (.ref b2), (.ref b2)])) _
    refine XS.lloadN X30.here hx rfl (hb hby at_327) rfl ?_
    show Steps p.tables e below (T30.setTop (mkF m 328 #[.val (.int p1), .val (.int p2), .val (.int p3), .val (.long q4), .second, .val (.long q5), .second, .val (.int (Voff p1)), .val (.int (Vs p1)), .val (.int (Vn p2)), .val (.int (Vd p3)), .unset, .unset, .unset, .unset, .unset] [(.long q4), (.int (Vd p3)), (.int (Vn p2)), (.int (Vs p1)), (.int (Voff p1)), (.int (14 : Int32)), (.int (14 : Int32)), (.ref b2), (.ref b2)])) _
    refine XS.lload X30.here hx rfl (hb hby at_328) rfl ?_
    show Steps p.tables e below (T30.setTop (mkF m 330 #[.val (.int p1), .val (.int p2), .val (.int p3), .val (.long q4), .second, .val (.long q5), .second, .val (.int (Voff p1)), .val (.int (Vs p1)), .val (.int (Vn p2)), .val (.int (Vd p3)), .unset, .unset, .unset, .unset, .unset] [(.long q5), (.long q4), (.int (Vd p3)), (.int (Vn p2)), (.int (Vs p1)), (.int (Voff p1)), (.int (14 : Int32)), (.int (14 : Int32)), (.ref b2), (.ref b2)])) _
    refine st31 _ ?_
    show Steps p.tables e below (T31.setTop (mkF m 333 #[.val (.int p1), .val (.int p2), .val (.int p3), .val (.long q4), .second, .val (.long q5), .second, .val (.int (Voff p1)), .val (.int (Vs p1)), .val (.int (Vn p2)), .val (.int (Vd p3)), .unset, .unset, .unset, .unset, .unset] [(.int (F1 (14 : Int32) (Voff p1) (Vs p1) (Vn p2) (Vd p3) q4 q5)), (.int (14 : Int32)), (.ref b2), (.ref b2)])) _
    refine st32 _ ?_
    show Steps p.tables e below (T32.setTop (mkF m 334 #[.val (.int p1), .val (.int p2), .val (.int p3), .val (.long q4), .second, .val (.long q5), .second, .val (.int (Voff p1)), .val (.int (Vs p1)), .val (.int (Vn p2)), .val (.int (Vd p3)), .unset, .unset, .unset, .unset, .unset] [(.ref b2)])) _
    refine XS.dup X32.here hx rfl (hb hby at_334) rfl rfl ?_
    show Steps p.tables e below (T32.setTop (mkF m 335 #[.val (.int p1), .val (.int p2), .val (.int p3), .val (.long q4), .second, .val (.long q5), .second, .val (.int (Voff p1)), .val (.int (Vs p1)), .val (.int (Vn p2)), .val (.int (Vd p3)), .unset, .unset, .unset, .unset, .unset] [(.ref b2), (.ref b2)])) _
    refine XS.bipush X32.here hx rfl (hb hby at_335) ?_
    show Steps p.tables e below (T32.setTop (mkF m 337 #[.val (.int p1), .val (.int p2), .val (.int p3), .val (.long q4), .second, .val (.long q5), .second, .val (.int (Voff p1)), .val (.int (Vs p1)), .val (.int (Vn p2)), .val (.int (Vd p3)), .unset, .unset, .unset, .unset, .unset] [(.int (15 : Int32)), (.ref b2), (.ref b2)])) _
    refine XS.bipush X32.here hx rfl (hb hby at_337) ?_
    show Steps p.tables e below (T32.setTop (mkF m 339 #[.val (.int p1), .val (.int p2), .val (.int p3), .val (.long q4), .second, .val (.long q5), .second, .val (.int (Voff p1)), .val (.int (Vs p1)), .val (.int (Vn p2)), .val (.int (Vd p3)), .unset, .unset, .unset, .unset, .unset] [(.int (15 : Int32)), (.int (15 : Int32)), (.ref b2), (.ref b2)])) _
    refine XS.iload X32.here hx rfl (hb hby at_339) rfl ?_
    show Steps p.tables e below (T32.setTop (mkF m 341 #[.val (.int p1), .val (.int p2), .val (.int p3), .val (.long q4), .second, .val (.long q5), .second, .val (.int (Voff p1)), .val (.int (Vs p1)), .val (.int (Vn p2)), .val (.int (Vd p3)), .unset, .unset, .unset, .unset, .unset] [(.int (Voff p1)), (.int (15 : Int32)), (.int (15 : Int32)), (.ref b2), (.ref b2)])) _
    refine XS.iload X32.here hx rfl (hb hby at_341) rfl ?_
    show Steps p.tables e below (T32.setTop (mkF m 343 #[.val (.int p1), .val (.int p2), .val (.int p3), .val (.long q4), .second, .val (.long q5), .second, .val (.int (Voff p1)), .val (.int (Vs p1)), .val (.int (Vn p2)), .val (.int (Vd p3)), .unset, .unset, .unset, .unset, .unset] [(.int (Vs p1)), (.int (Voff p1)), (.int (15 : Int32)), (.int (15 : Int32)), (.ref b2), (.ref b2)])) _
    refine XS.iload X32.here hx rfl (hb hby at_343) rfl ?_
    show Steps p.tables e below (T32.setTop (mkF m 345 #[.val (.int p1), .val (.int p2), .val (.int p3), .val (.long q4), .second, .val (.long q5), .second, .val (.int (Voff p1)), .val (.int (Vs p1)), .val (.int (Vn p2)), .val (.int (Vd p3)), .unset, .unset, .unset, .unset, .unset] [(.int (Vn p2)), (.int (Vs p1)), (.int (Voff p1)), (.int (15 : Int32)), (.int (15 : Int32)), (.ref b2), (.ref b2)])) _
    refine XS.iload X32.here hx rfl (hb hby at_345) rfl ?_
    show Steps p.tables e below (T32.setTop (mkF m 347 #[.val (.int p1), .val (.int p2), .val (.int p3), .val (.long q4), .second, .val (.long q5), .second, .val (.int (Voff p1)), .val (.int (Vs p1)), .val (.int (Vn p2)), .val (.int (Vd p3)), .unset, .unset, .unset, .unset, .unset] [(.int (Vd p3)), (.int (Vn p2)), (.int (Vs p1)), (.int (Voff p1)), (.int (15 : Int32)), (.int (15 : Int32)), (.ref b2), (.ref b2)])) _
    refine XS.lloadN X32.here hx rfl (hb hby at_347) rfl ?_
    show Steps p.tables e below (T32.setTop (mkF m 348 #[.val (.int p1), .val (.int p2), .val (.int p3), .val (.long q4), .second, .val (.long q5), .second, .val (.int (Voff p1)), .val (.int (Vs p1)), .val (.int (Vn p2)), .val (.int (Vd p3)), .unset, .unset, .unset, .unset, .unset] [(.long q4), (.int (Vd p3)), (.int (Vn p2)), (.int (Vs p1)), (.int (Voff p1)), (.int (15 : Int32)), (.int (15 : Int32)), (.ref b2), (.ref b2)])) _
    refine XS.lload X32.here hx rfl (hb hby at_348) rfl ?_
    show Steps p.tables e below (T32.setTop (mkF m 350 #[.val (.int p1), .val (.int p2), .val (.int p3), .val (.long q4), .second, .val (.long q5), .second, .val (.int (Voff p1)), .val (.int (Vs p1)), .val (.int (Vn p2)), .val (.int (Vd p3)), .unset, .unset, .unset, .unset, .unset] [(.long q5), (.long q4), (.int (Vd p3)), (.int (Vn p2)), (.int (Vs p1)), (.int (Voff p1)), (.int (15 : Int32)), (.int (15 : Int32)), (.ref b2), (.ref b2)])) _
    refine st33 _ ?_
    show Steps p.tables e below (T33.setTop (mkF m 353 #[.val (.int p1), .val (.int p2), .val (.int p3), .val (.long q4), .second, .val (.long q5), .second, .val (.int (Voff p1)), .val (.int (Vs p1)), .val (.int (Vn p2)), .val (.int (Vd p3)), .unset, .unset, .unset, .unset, .unset] [(.int (F1 (15 : Int32) (Voff p1) (Vs p1) (Vn p2) (Vd p3) q4 q5)), (.int (15 : Int32)), (.ref b2), (.ref b2)])) _
    refine st34 _ ?_
    show Steps p.tables e below (T34.setTop (mkF m 354 #[.val (.int p1), .val (.int p2), .val (.int p3), .val (.long q4), .second, .val (.long q5), .second, .val (.int (Voff p1)), .val (.int (Vs p1)), .val (.int (Vn p2)), .val (.int (Vd p3)), .unset, .unset, .unset, .unset, .unset] [(.ref b2)])) _
    refine XS.dup X34.here hx rfl (hb hby at_354) rfl rfl ?_
    show Steps p.tables e below (T34.setTop (mkF m 355 #[.val (.int p1), .val (.int p2), .val (.int p3), .val (.long q4), .second, .val (.long q5), .second, .val (.int (Voff p1)), .val (.int (Vs p1)), .val (.int (Vn p2)), .val (.int (Vd p3)), .unset, .unset, .unset, .unset, .unset] [(.ref b2), (.ref b2)])) _
    refine XS.bipush X34.here hx rfl (hb hby at_355) ?_
    show Steps p.tables e below (T34.setTop (mkF m 357 #[.val (.int p1), .val (.int p2), .val (.int p3), .val (.long q4), .second, .val (.long q5), .second, .val (.int (Voff p1)), .val (.int (Vs p1)), .val (.int (Vn p2)), .val (.int (Vd p3)), .unset, .unset, .unset, .unset, .unset] [(.int (16 : Int32)), (.ref b2), (.ref b2)])) _
    refine XS.bipush X34.here hx rfl (hb hby at_357) ?_
    show Steps p.tables e below (T34.setTop (mkF m 359 #[.val (.int p1), .val (.int p2), .val (.int p3), .val (.long q4), .second, .val (.long q5), .second, .val (.int (Voff p1)), .val (.int (Vs p1)), .val (.int (Vn p2)), .val (.int (Vd p3)), .unset, .unset, .unset, .unset, .unset] [(.int (16 : Int32)), (.int (16 : Int32)), (.ref b2), (.ref b2)])) _
    refine XS.iload X34.here hx rfl (hb hby at_359) rfl ?_
    show Steps p.tables e below (T34.setTop (mkF m 361 #[.val (.int p1), .val (.int p2), .val (.int p3), .val (.long q4), .second, .val (.long q5), .second, .val (.int (Voff p1)), .val (.int (Vs p1)), .val (.int (Vn p2)), .val (.int (Vd p3)), .unset, .unset, .unset, .unset, .unset] [(.int (Voff p1)), (.int (16 : Int32)), (.int (16 : Int32)), (.ref b2), (.ref b2)])) _
    refine XS.iload X34.here hx rfl (hb hby at_361) rfl ?_
    show Steps p.tables e below (T34.setTop (mkF m 363 #[.val (.int p1), .val (.int p2), .val (.int p3), .val (.long q4), .second, .val (.long q5), .second, .val (.int (Voff p1)), .val (.int (Vs p1)), .val (.int (Vn p2)), .val (.int (Vd p3)), .unset, .unset, .unset, .unset, .unset] [(.int (Vs p1)), (.int (Voff p1)), (.int (16 : Int32)), (.int (16 : Int32)), (.ref b2), (.ref b2)])) _
    refine XS.iload X34.here hx rfl (hb hby at_363) rfl ?_
    show Steps p.tables e below (T34.setTop (mkF m 365 #[.val (.int p1), .val (.int p2), .val (.int p3), .val (.long q4), .second, .val (.long q5), .second, .val (.int (Voff p1)), .val (.int (Vs p1)), .val (.int (Vn p2)), .val (.int (Vd p3)), .unset, .unset, .unset, .unset, .unset] [(.int (Vn p2)), (.int (Vs p1)), (.int (Voff p1)), (.int (16 : Int32)), (.int (16 : Int32)), (.ref b2), (.ref b2)])) _
    refine XS.iload X34.here hx rfl (hb hby at_365) rfl ?_
    show Steps p.tables e below (T34.setTop (mkF m 367 #[.val (.int p1), .val (.int p2), .val (.int p3), .val (.long q4), .second, .val (.long q5), .second, .val (.int (Voff p1)), .val (.int (Vs p1)), .val (.int (Vn p2)), .val (.int (Vd p3)), .unset, .unset, .unset, .unset, .unset] [(.int (Vd p3)), (.int (Vn p2)), (.int (Vs p1)), (.int (Voff p1)), (.int (16 : Int32)), (.int (16 : Int32)), (.ref b2), (.ref b2)])) _
    refine XS.lloadN X34.here hx rfl (hb hby at_367) rfl ?_
    show Steps p.tables e below (T34.setTop (mkF m 368 #[.val (.int p1), .val (.int p2), .val (.int p3), .val (.long q4), .second, .val (.long q5), .second, .val (.int (Voff p1)), .val (.int (Vs p1)), .val (.int (Vn p2)), .val (.int (Vd p3)), .unset, .unset, .unset, .unset, .unset] [(.long q4), (.int (Vd p3)), (.int (Vn p2)), (.int (Vs p1)), (.int (Voff p1)), (.int (16 : Int32)), (.int (16 : Int32)), (.ref b2), (.ref b2)])) _
    refine XS.lload X34.here hx rfl (hb hby at_368) rfl ?_
    show Steps p.tables e below (T34.setTop (mkF m 370 #[.val (.int p1), .val (.int p2), .val (.int p3), .val (.long q4), .second, .val (.long q5), .second, .val (.int (Voff p1)), .val (.int (Vs p1)), .val (.int (Vn p2)), .val (.int (Vd p3)), .unset, .unset, .unset, .unset, .unset] [(.long q5), (.long q4), (.int (Vd p3)), (.int (Vn p2)), (.int (Vs p1)), (.int (Voff p1)), (.int (16 : Int32)), (.int (16 : Int32)), (.ref b2), (.ref b2)])) _
    refine st35 _ ?_
    show Steps p.tables e below (T35.setTop (mkF m 373 #[.val (.int p1), .val (.int p2), .val (.int p3), .val (.long q4), .second, .val (.long q5), .second, .val (.int (Voff p1)), .val (.int (Vs p1)), .val (.int (Vn p2)), .val (.int (Vd p3)), .unset, .unset, .unset, .unset, .unset] [(.int (F1 (16 : Int32) (Voff p1) (Vs p1) (Vn p2) (Vd p3) q4 q5)), (.int (16 : Int32)), (.ref b2), (.ref b2)])) _
    refine st36 _ ?_
    show Steps p.tables e below (T36.setTop (mkF m 374 #[.val (.int p1), .val (.int p2), .val (.int p3), .val (.long q4), .second, .val (.long q5), .second, .val (.int (Voff p1)), .val (.int (Vs p1)), .val (.int (Vn p2)), .val (.int (Vd p3)), .unset, .unset, .unset, .unset, .unset] [(.ref b2)])) _
    refine XS.dup X36.here hx rfl (hb hby at_374) rfl rfl ?_
    show Steps p.tables e below (T36.setTop (mkF m 375 #[.val (.int p1), .val (.int p2), .val (.int p3), .val (.long q4), .second, .val (.long q5), .second, .val (.int (Voff p1)), .val (.int (Vs p1)), .val (.int (Vn p2)), .val (.int (Vd p3)), .unset, .unset, .unset, .unset, .unset] [(.ref b2), (.ref b2)])) _
    refine XS.bipush X36.here hx rfl (hb hby at_375) ?_
    show Steps p.tables e below (T36.setTop (mkF m 377 #[.val (.int p1), .val (.int p2), .val (.int p3), .val (.long q4), .second, .val (.long q5), .second, .val (.int (Voff p1)), .val (.int (Vs p1)), .val (.int (Vn p2)), .val (.int (Vd p3)), .unset, .unset, .unset, .unset, .unset] [(.int (17 : Int32)), (.ref b2), (.ref b2)])) _
    refine XS.bipush X36.here hx rfl (hb hby at_377) ?_
    show Steps p.tables e below (T36.setTop (mkF m 379 #[.val (.int p1), .val (.int p2), .val (.int p3), .val (.long q4), .second, .val (.long q5), .second, .val (.int (Voff p1)), .val (.int (Vs p1)), .val (.int (Vn p2)), .val (.int (Vd p3)), .unset, .unset, .unset, .unset, .unset] [(.int (17 : Int32)), (.int (17 : Int32)), (.ref b2), (.ref b2)])) _
    refine XS.iload X36.here hx rfl (hb hby at_379) rfl ?_
    show Steps p.tables e below (T36.setTop (mkF m 381 #[.val (.int p1), .val (.int p2), .val (.int p3), .val (.long q4), .second, .val (.long q5), .second, .val (.int (Voff p1)), .val (.int (Vs p1)), .val (.int (Vn p2)), .val (.int (Vd p3)), .unset, .unset, .unset, .unset, .unset] [(.int (Voff p1)), (.int (17 : Int32)), (.int (17 : Int32)), (.ref b2), (.ref b2)])) _
    refine XS.iload X36.here hx rfl (hb hby at_381) rfl ?_
    show Steps p.tables e below (T36.setTop (mkF m 383 #[.val (.int p1), .val (.int p2), .val (.int p3), .val (.long q4), .second, .val (.long q5), .second, .val (.int (Voff p1)), .val (.int (Vs p1)), .val (.int (Vn p2)), .val (.int (Vd p3)), .unset, .unset, .unset, .unset, .unset] [(.int (Vs p1)), (.int (Voff p1)), (.int (17 : Int32)), (.int (17 : Int32)), (.ref b2), (.ref b2)])) _
    refine XS.iload X36.here hx rfl (hb hby at_383) rfl ?_
    show Steps p.tables e below (T36.setTop (mkF m 385 #[.val (.int p1), .val (.int p2), .val (.int p3), .val (.long q4), .second, .val (.long q5), .second, .val (.int (Voff p1)), .val (.int (Vs p1)), .val (.int (Vn p2)), .val (.int (Vd p3)), .unset, .unset, .unset, .unset, .unset] [(.int (Vn p2)), (.int (Vs p1)), (.int (Voff p1)), (.int (17 : Int32)), (.int (17 : Int32)), (.ref b2), (.ref b2)])) _
    refine XS.iload X36.here hx rfl (hb hby at_385) rfl ?_
    show Steps p.tables e below (T36.setTop (mkF m 387 #[.val (.int p1), .val (.int p2), .val (.int p3), .val (.long q4), .second, .val (.long q5), .second, .val (.int (Voff p1)), .val (.int (Vs p1)), .val (.int (Vn p2)), .val (.int (Vd p3)), .unset, .unset, .unset, .unset, .unset] [(.int (Vd p3)), (.int (Vn p2)), (.int (Vs p1)), (.int (Voff p1)), (.int (17 : Int32)), (.int (17 : Int32)), (.ref b2), (.ref b2)])) _
    refine XS.lloadN X36.here hx rfl (hb hby at_387) rfl ?_
    show Steps p.tables e below (T36.setTop (mkF m 388 #[.val (.int p1), .val (.int p2), .val (.int p3), .val (.long q4), .second, .val (.long q5), .second, .val (.int (Voff p1)), .val (.int (Vs p1)), .val (.int (Vn p2)), .val (.int (Vd p3)), .unset, .unset, .unset, .unset, .unset] [(.long q4), (.int (Vd p3)), (.int (Vn p2)), (.int (Vs p1)), (.int (Voff p1)), (.int (17 : Int32)), (.int (17 : Int32)), (.ref b2), (.ref b2)])) _
    refine XS.lload X36.here hx rfl (hb hby at_388) rfl ?_
    show Steps p.tables e below (T36.setTop (mkF m 390 #[.val (.int p1), .val (.int p2), .val (.int p3), .val (.long q4), .second, .val (.long q5), .second, .val (.int (Voff p1)), .val (.int (Vs p1)), .val (.int (Vn p2)), .val (.int (Vd p3)), .unset, .unset, .unset, .unset, .unset] [(.long q5), (.long q4), (.int (Vd p3)), (.int (Vn p2)), (.int (Vs p1)), (.int (Voff p1)), (.int (17 : Int32)), (.int (17 : Int32)), (.ref b2), (.ref b2)])) _
    refine st37 _ ?_
    show Steps p.tables e below (T37.setTop (mkF m 393 #[.val (.int p1), .val (.int p2), .val (.int p3), .val (.long q4), .second, .val (.long q5), .second, .val (.int (Voff p1)), .val (.int (Vs p1)), .val (.int (Vn p2)), .val (.int (Vd p3)), .unset, .unset, .unset, .unset, .unset] [(.int (F1 (17 : Int32) (Voff p1) (Vs p1) (Vn p2) (Vd p3) q4 q5)), (.int (17 : Int32)), (.ref b2), (.ref b2)])) _
    refine st38 _ ?_
    show Steps p.tables e below (T38.setTop (mkF m 394 #[.val (.int p1), .val (.int p2), .val (.int p3), .val (.long q4), .second, .val (.long q5), .second, .val (.int (Voff p1)), .val (.int (Vs p1)), .val (.int (Vn p2)), .val (.int (Vd p3)), .unset, .unset, .unset, .unset, .unset] [(.ref b2)])) _
    refine XS.dup X38.here hx rfl (hb hby at_394) rfl rfl ?_
    show Steps p.tables e below (T38.setTop (mkF m 395 #[.val (.int p1), .val (.int p2), .val (.int p3), .val (.long q4), .second, .val (.long q5), .second, .val (.int (Voff p1)), .val (.int (Vs p1)), .val (.int (Vn p2)), .val (.int (Vd p3)), .unset, .unset, .unset, .unset, .unset] [(.ref b2), (.ref b2)])) _
    refine XS.bipush X38.here hx rfl (hb hby at_395) ?_
    show Steps p.tables e below (T38.setTop (mkF m 397 #[.val (.int p1), .val (.int p2), .val (.int p3), .val (.long q4), .second, .val (.long q5), .second, .val (.int (Voff p1)), .val (.int (Vs p1)), .val (.int (Vn p2)), .val (.int (Vd p3)), .unset, .unset, .unset, .unset, .unset] [(.int (18 : Int32)), (.ref b2), (.ref b2)])) _
    refine XS.bipush X38.here hx rfl (hb hby at_397) ?_
    show Steps p.tables e below (T38.setTop (mkF m 399 #[.val (.int p1), .val (.int p2), .val (.int p3), .val (.long q4), .second, .val (.long q5), .second, .val (.int (Voff p1)), .val (.int (Vs p1)), .val (.int (Vn p2)), .val (.int (Vd p3)), .unset, .unset, .unset, .unset, .unset] [(.int (18 : Int32)), (.int (18 : Int32)), (.ref b2), (.ref b2)])) _
    refine XS.iload X38.here hx rfl (hb hby at_399) rfl ?_
    show Steps p.tables e below (T38.setTop (mkF m 401 #[.val (.int p1), .val (.int p2), .val (.int p3), .val (.long q4), .second, .val (.long q5), .second, .val (.int (Voff p1)), .val (.int (Vs p1)), .val (.int (Vn p2)), .val (.int (Vd p3)), .unset, .unset, .unset, .unset, .unset] [(.int (Voff p1)), (.int (18 : Int32)), (.int (18 : Int32)), (.ref b2), (.ref b2)])) _
    refine XS.iload X38.here hx rfl (hb hby at_401) rfl ?_
    show Steps p.tables e below (T38.setTop (mkF m 403 #[.val (.int p1), .val (.int p2), .val (.int p3), .val (.long q4), .second, .val (.long q5), .second, .val (.int (Voff p1)), .val (.int (Vs p1)), .val (.int (Vn p2)), .val (.int (Vd p3)), .unset, .unset, .unset, .unset, .unset] [(.int (Vs p1)), (.int (Voff p1)), (.int (18 : Int32)), (.int (18 : Int32)), (.ref b2), (.ref b2)])) _
    refine XS.iload X38.here hx rfl (hb hby at_403) rfl ?_
    show Steps p.tables e below (T38.setTop (mkF m 405 #[.val (.int p1), .val (.int p2), .val (.int p3), .val (.long q4), .second, .val (.long q5), .second, .val (.int (Voff p1)), .val (.int (Vs p1)), .val (.int (Vn p2)), .val (.int (Vd p3)), .unset, .unset, .unset, .unset, .unset] [(.int (Vn p2)), (.int (Vs p1)), (.int (Voff p1)), (.int (18 : Int32)), (.int (18 : Int32)), (.ref b2), (.ref b2)])) _
    refine XS.iload X38.here hx rfl (hb hby at_405) rfl ?_
    show Steps p.tables e below (T38.setTop (mkF m 407 #[.val (.int p1), .val (.int p2), .val (.int p3), .val (.long q4), .second, .val (.long q5), .second, .val (.int (Voff p1)), .val (.int (Vs p1)), .val (.int (Vn p2)), .val (.int (Vd p3)), .unset, .unset, .unset, .unset, .unset] [(.int (Vd p3)), (.int (Vn p2)), (.int (Vs p1)), (.int (Voff p1)), (.int (18 : Int32)), (.int (18 : Int32)), (.ref b2), (.ref b2)])) _
    refine XS.lloadN X38.here hx rfl (hb hby at_407) rfl ?_
    show Steps p.tables e below (T38.setTop (mkF m 408 #[.val (.int p1), .val (.int p2), .val (.int p3), .val (.long q4), .second, .val (.long q5), .second, .val (.int (Voff p1)), .val (.int (Vs p1)), .val (.int (Vn p2)), .val (.int (Vd p3)), .unset, .unset, .unset, .unset, .unset] [(.long q4), (.int (Vd p3)), (.int (Vn p2)), (.int (Vs p1)), (.int (Voff p1)), (.int (18 : Int32)), (.int (18 : Int32)), (.ref b2), (.ref b2)])) _
    refine XS.lload X38.here hx rfl (hb hby at_408) rfl ?_
    show Steps p.tables e below (T38.setTop (mkF m 410 #[.val (.int p1), .val (.int p2), .val (.int p3), .val (.long q4), .second, .val (.long q5), .second, .val (.int (Voff p1)), .val (.int (Vs p1)), .val (.int (Vn p2)), .val (.int (Vd p3)), .unset, .unset, .unset, .unset, .unset] [(.long q5), (.long q4), (.int (Vd p3)), (.int (Vn p2)), (.int (Vs p1)), (.int (Voff p1)), (.int (18 : Int32)), (.int (18 : Int32)), (.ref b2), (.ref b2)])) _
    refine st39 _ ?_
    show Steps p.tables e below (T39.setTop (mkF m 413 #[.val (.int p1), .val (.int p2), .val (.int p3), .val (.long q4), .second, .val (.long q5), .second, .val (.int (Voff p1)), .val (.int (Vs p1)), .val (.int (Vn p2)), .val (.int (Vd p3)), .unset, .unset, .unset, .unset, .unset] [(.int (F1 (18 : Int32) (Voff p1) (Vs p1) (Vn p2) (Vd p3) q4 q5)), (.int (18 : Int32)), (.ref b2), (.ref b2)])) _
    refine st40 _ ?_
    show Steps p.tables e below (T40.setTop (mkF m 414 #[.val (.int p1), .val (.int p2), .val (.int p3), .val (.long q4), .second, .val (.long q5), .second, .val (.int (Voff p1)), .val (.int (Vs p1)), .val (.int (Vn p2)), .val (.int (Vd p3)), .unset, .unset, .unset, .unset, .unset] [(.ref b2)])) _
    refine XS.dup X40.here hx rfl (hb hby at_414) rfl rfl ?_
    show Steps p.tables e below (T40.setTop (mkF m 415 #[.val (.int p1), .val (.int p2), .val (.int p3), .val (.long q4), .second, .val (.long q5), .second, .val (.int (Voff p1)), .val (.int (Vs p1)), .val (.int (Vn p2)), .val (.int (Vd p3)), .unset, .unset, .unset, .unset, .unset] [(.ref b2), (.ref b2)])) _
    refine XS.bipush X40.here hx rfl (hb hby at_415) ?_
    show Steps p.tables e below (T40.setTop (mkF m 417 #[.val (.int p1), .val (.int p2), .val (.int p3), .val (.long q4), .second, .val (.long q5), .second, .val (.int (Voff p1)), .val (.int (Vs p1)), .val (.int (Vn p2)), .val (.int (Vd p3)), .unset, .unset, .unset, .unset, .unset] [(.int (19 : Int32)), (.ref b2), (.ref b2)])) _
    refine XS.bipush X40.here hx rfl (hb hby at_417) ?_
    show Steps p.tables e below (T40.setTop (mkF m 419 #[.val (.int p1), .val (.int p2), .val (.int p3), .val (.long q4), .second, .val (.long q5), .second, .val (.int (Voff p1)), .val (.int (Vs p1)), .val (.int (Vn p2)), .val (.int (Vd p3)), .unset, .unset, .unset, .unset, .unset] [(.int (19 : Int32)), (.int (19 : Int32)), (.ref b2), (.ref b2)])) _
    refine XS.iload X40.here hx rfl (hb hby at_419) rfl ?_
    show Steps p.tables e below (T40.setTop (mkF m 421 #[.val (.int p1), .val (.int p2), .val (.int p3), .val (.long q4), .second, .val (.long q5), .second, .val (.int (Voff p1)), .val (.int (Vs p1)), .val (.int (Vn p2)), .val (.int (Vd p3)), .unset, .unset, .unset, .unset, .unset] [(.int (Voff p1)), (.int (19 : Int32)), (.int (19 : Int32)), (.ref b2), (.ref b2)])) _
    refine XS.iload X40.here hx rfl (hb hby at_421) rfl ?_
    show Steps p.tables e below (T40.setTop (mkF m 423 #[.val (.int p1), .val (.int p2), .val (.int p3), .val (.long q4), .second, .val (.long q5), .second, .val (.int (Voff p1)), .val (.int (Vs p1)), .val (.int (Vn p2)), .val (.int (Vd p3)), .unset, .unset, .unset, .unset, .unset] [(.int (Vs p1)), (.int (Voff p1)), (.int (19 : Int32)), (.int (19 : Int32)), (.ref b2), (.ref b2)])) _
    refine XS.iload X40.here hx rfl (hb hby at_423) rfl ?_
    show Steps p.tables e below (T40.setTop (mkF m 425 #[.val (.int p1), .val (.int p2), .val (.int p3), .val (.long q4), .second, .val (.long q5), .second, .val (.int (Voff p1)), .val (.int (Vs p1)), .val (.int (Vn p2)), .val (.int (Vd p3)), .unset, .unset, .unset, .unset, .unset] [(.int (Vn p2)), (.int (Vs p1)), (.int (Voff p1)), (.int (19 : Int32)), (.int (19 : Int32)), (.ref b2), (.ref b2)])) _
    refine XS.iload X40.here hx rfl (hb hby at_425) rfl ?_
    show Steps p.tables e below (T40.setTop (mkF m 427 #[.val (.int p1), .val (.int p2), .val (.int p3), .val (.long q4), .second, .val (.long q5), .second, .val (.int (Voff p1)), .val (.int (Vs p1)), .val (.int (Vn p2)), .val (.int (Vd p3)), .unset, .unset, .unset, .unset, .unset] [(.int (Vd p3)), (.int (Vn p2)), (.int (Vs p1)), (.int (Voff p1)), (.int (19 : Int32)), (.int (19 : Int32)), (.ref b2), (.ref b2)])) _
    refine XS.lloadN X40.here hx rfl (hb hby at_427) rfl ?_
    show Steps p.tables e below (T40.setTop (mkF m 428 #[.val (.int p1), .val (.int p2), .val (.int p3), .val (.long q4), .second, .val (.long q5), .second, .val (.int (Voff p1)), .val (.int (Vs p1)), .val (.int (Vn p2)), .val (.int (Vd p3)), .unset, .unset, .unset, .unset, .unset] [(.long q4), (.int (Vd p3)), (.int (Vn p2)), (.int (Vs p1)), (.int (Voff p1)), (.int (19 : Int32)), (.int (19 : Int32)), (.ref b2), (.ref b2)])) _
    refine XS.lload X40.here hx rfl (hb hby at_428) rfl ?_
    show Steps p.tables e below (T40.setTop (mkF m 430 #[.val (.int p1), .val (.int p2), .val (.int p3), .val (.long q4), .second, .val (.long q5), .second, .val (.int (Voff p1)), .val (.int (Vs p1)), .val (.int (Vn p2)), .val (.int (Vd p3)), .unset, .unset, .unset, .unset, .unset] [(.long q5), (.long q4), (.int (Vd p3)), (.int (Vn p2)), (.int (Vs p1)), (.int (Voff p1)), (.int (19 : Int32)), (.int (19 : Int32)), (.ref b2), (.ref b2)])) _
    refine st41 _ ?_
    show Steps p.tables e below (T41.setTop (mkF m 433 #[.val (.int p1), .val (.int p2), .val (.int p3), .val (.long q4), .second, .val (.long q5), .second, .val (.int (Voff p1)), .val (.int (Vs p1)), .val (.int (Vn p2)), .val (.int (Vd p3)), .unset, .unset, .unset, .unset, .unset] [(.int (F1 (19 : Int32) (Voff p1) (Vs p1) (Vn p2) (Vd p3) q4 q5)), (.int (19 : Int32)), (.ref b2), (.ref b2)])) _
    refine st42 _ ?_
    show Steps p.tables e below (T42.setTop (mkF m 434 #[.val (.int p1), .val (.int p2), .val (.int p3), .val (.long q4), .second, .val (.long q5), .second, .val (.int (Voff p1)), .val (.int (Vs p1)), .val (.int (Vn p2)), .val (.int (Vd p3)), .unset, .unset, .unset, .unset, .unset] [(.ref b2)])) _
    refine XS.dup X42.here hx rfl (hb hby at_434) rfl rfl ?_
    show Steps p.tables e below (T42.setTop (mkF m 435 #[.val (.int p1), .val (.int p2), .val (.int p3), .val (.long q4), .second, .val (.long q5), .second, .val (.int (Voff p1)), .val (.int (Vs p1)), .val (.int (Vn p2)), .val (.int (Vd p3)), .unset, .unset, .unset, .unset, .unset] [(.ref b2), (.ref b2)])) _
    refine XS.bipush X42.here hx rfl (hb hby at_435) ?_
    show Steps p.tables e below (T42.setTop (mkF m 437 #[.val (.int p1), .val (.int p2), .val (.int p3), .val (.long q4), .second, .val (.long q5), .second, .val (.int (Voff p1)), .val (.int (Vs p1)), .val (.int (Vn p2)), .val (.int (Vd p3)), .unset, .unset, .unset, .unset, .unset] [(.int (20 : Int32)), (.ref b2), (.ref b2)])) _
    refine XS.bipush X42.here hx rfl (hb hby at_437) ?_
    show Steps p.tables e below (T42.setTop (mkF m 439 #[.val (.int p1), .val (.int p2), .val (.int p3), .val (.long q4), .second, .val (.long q5), .second, .val (.int (Voff p1)), .val (.int (Vs p1)), .val (.int (Vn p2)), .val (.int (Vd p3)), .unset, .unset, .unset, .unset, .unset] [(.int (20 : Int32)), (.int (20 : Int32)), (.ref b2), (.ref b2)])) _
    refine XS.iload X42.here hx rfl (hb hby at_439) rfl ?_
    show Steps p.tables e below (T42.setTop (mkF m 441 #[.val (.int p1), .val (.int p2), .val (.int p3), .val (.long q4), .second, .val (.long q5), .second, .val (.int (Voff p1)), .val (.int (Vs p1)), .val (.int (Vn p2)), .val (.int (Vd p3)), .unset, .unset, .unset, .unset, .unset] [(.int (Voff p1)), (.int (20 : Int32)), (.int (20 : Int32)), (.ref b2), (.ref b2)])) _
    refine XS.iload X42.here hx rfl (hb hby at_441) rfl ?_
    show Steps p.tables e below (T42.setTop (mkF m 443 #[.val (.int p1), .val (.int p2), .val (.int p3), .val (.long q4), .second, .val (.long q5), .second, .val (.int (Voff p1)), .val (.int (Vs p1)), .val (.int (Vn p2)), .val (.int (Vd p3)), .unset, .unset, .unset, .unset, .unset] [(.int (Vs p1)), (.int (Voff p1)), (.int (20 : Int32)), (.int (20 : Int32)), (.ref b2), (.ref b2)])) _
    refine XS.iload X42.here hx rfl (hb hby at_443) rfl ?_
    show Steps p.tables e below (T42.setTop (mkF m 445 #[.val (.int p1), .val (.int p2), .val (.int p3), .val (.long q4), .second, .val (.long q5), .second, .val (.int (Voff p1)), .val (.int (Vs p1)), .val (.int (Vn p2)), .val (.int (Vd p3)), .unset, .unset, .unset, .unset, .unset] [(.int (Vn p2)), (.int (Vs p1)), (.int (Voff p1)), (.int (20 : Int32)), (.int (20 : Int32)), (.ref b2), (.ref b2)])) _
    refine XS.iload X42.here hx rfl (hb hby at_445) rfl ?_
    show Steps p.tables e below (T42.setTop (mkF m 447 #[.val (.int p1), .val (.int p2), .val (.int p3), .val (.long q4), .second, .val (.long q5), .second, .val (.int (Voff p1)), .val (.int (Vs p1)), .val (.int (Vn p2)), .val (.int (Vd p3)), .unset, .unset, .unset, .unset, .unset] [(.int (Vd p3)), (.int (Vn p2)), (.int (Vs p1)), (.int (Voff p1)), (.int (20 : Int32)), (.int (20 : Int32)), (.ref b2), (.ref b2)])) _
    refine XS.lloadN X42.here hx rfl (hb hby at_447) rfl ?_
    show Steps p.tables e below (T42.setTop (mkF m 448 #[.val (.int p1), .val (.int p2), .val (.int p3), .val (.long q4), .second, .val (.long q5), .second, .val (.int (Voff p1)), .val (.int (Vs p1)), .val (.int (Vn p2)), .val (.int (Vd p3)), .unset, .unset, .unset, .unset, .unset] [(.long q4), (.int (Vd p3)), (.int (Vn p2)), (.int (Vs p1)), (.int (Voff p1)), (.int (20 : Int32)), (.int (20 : Int32)), (.ref b2), (.ref b2)])) _
    refine XS.lload X42.here hx rfl (hb hby at_448) rfl ?_
    show Steps p.tables e below (T42.setTop (mkF m 450 #[.val (.int p1), .val (.int p2), .val (.int p3), .val (.long q4), .second, .val (.long q5), .second, .val (.int (Voff p1)), .val (.int (Vs p1)), .val (.int (Vn p2)), .val (.int (Vd p3)), .unset, .unset, .unset, .unset, .unset] [(.long q5), (.long q4), (.int (Vd p3)), (.int (Vn p2)), (.int (Vs p1)), (.int (Voff p1)), (.int (20 : Int32)), (.int (20 : Int32)), (.ref b2), (.ref b2)])) _
    refine st43 _ ?_
    show Steps p.tables e below (T43.setTop (mkF m 453 #[.val (.int p1), .val (.int p2), .val (.int p3), .val (.long q4), .second, .val (.long q5), .second, .val (.int (Voff p1)), .val (.int (Vs p1)), .val (.int (Vn p2)), .val (.int (Vd p3)), .unset, .unset, .unset, .unset, .unset] [(.int (F1 (20 : Int32) (Voff p1) (Vs p1) (Vn p2) (Vd p3) q4 q5)), (.int (20 : Int32)), (.ref b2), (.ref b2)])) _
    refine st44 _ ?_
    show Steps p.tables e below (T44.setTop (mkF m 454 #[.val (.int p1), .val (.int p2), .val (.int p3), .val (.long q4), .second, .val (.long q5), .second, .val (.int (Voff p1)), .val (.int (Vs p1)), .val (.int (Vn p2)), .val (.int (Vd p3)), .unset, .unset, .unset, .unset, .unset] [(.ref b2)])) _
    refine XS.dup X44.here hx rfl (hb hby at_454) rfl rfl ?_
    show Steps p.tables e below (T44.setTop (mkF m 455 #[.val (.int p1), .val (.int p2), .val (.int p3), .val (.long q4), .second, .val (.long q5), .second, .val (.int (Voff p1)), .val (.int (Vs p1)), .val (.int (Vn p2)), .val (.int (Vd p3)), .unset, .unset, .unset, .unset, .unset] [(.ref b2), (.ref b2)])) _
    refine XS.bipush X44.here hx rfl (hb hby at_455) ?_
    show Steps p.tables e below (T44.setTop (mkF m 457 #[.val (.int p1), .val (.int p2), .val (.int p3), .val (.long q4), .second, .val (.long q5), .second, .val (.int (Voff p1)), .val (.int (Vs p1)), .val (.int (Vn p2)), .val (.int (Vd p3)), .unset, .unset, .unset, .unset, .unset] [(.int (21 : Int32)), (.ref b2), (.ref b2)])) _
    refine XS.bipush X44.here hx rfl (hb hby at_457) ?_
    show Steps p.tables e below (T44.setTop (mkF m 459 #[.val (.int p1), .val (.int p2), .val (.int p3), .val (.long q4), .second, .val (.long q5), .second, .val (.int (Voff p1)), .val (.int (Vs p1)), .val (.int (Vn p2)), .val (.int (Vd p3)), .unset, .unset, .unset, .unset, .unset] [(.int (21 : Int32)), (.int (21 : Int32)), (.ref b2), (.ref b2)])) _
    refine XS.iload X44.here hx rfl (hb hby at_459) rfl ?_
    show Steps p.tables e below (T44.setTop (mkF m 461 #[.val (.int p1), .val (.int p2), .val (.int p3), .val (.long q4), .second, .val (.long q5), .second, .val (.int (Voff p1)), .val (.int (Vs p1)), .val (.int (Vn p2)), .val (.int (Vd p3)), .unset, .unset, .unset, .unset, .unset] [(.int (Voff p1)), (.int (21 : Int32)), (.int (21 : Int32)), (.ref b2), (.ref b2)])) _
    refine XS.iload X44.here hx rfl (hb hby at_461) rfl ?_
    show Steps p.tables e below (T44.setTop (mkF m 463 #[.val (.int p1), .val (.int p2), .val (.int p3), .val (.long q4), .second, .val (.long q5), .second, .val (.int (Voff p1)), .val (.int (Vs p1)), .val (.int (Vn p2)), .val (.int (Vd p3)), .unset, .unset, .unset, .unset, .unset] [(.int (Vs p1)), (.int (Voff p1)), (.int (21 : Int32)), (.int (21 : Int32)), (.ref b2), (.ref b2)])) _
    refine XS.iload X44.here hx rfl (hb hby at_463) rfl ?_
    show Steps p.tables e below (T44.setTop (mkF m 465 #[.val (.int p1), .val (.int p2), .val (.int p3), .val (.long q4), .second, .val (.long q5), .second, .val (.int (Voff p1)), .val (.int (Vs p1)), .val (.int (Vn p2)), .val (.int (Vd p3)), .unset, .unset, .unset, .unset, .unset] [(.int (Vn p2)), (.int (Vs p1)), (.int (Voff p1)), (.int (21 : Int32)), (.int (21 : Int32)), (.ref b2), (.ref b2)])) _
    refine XS.iload X44.here hx rfl (hb hby at_465) rfl ?_
    show Steps p.tables e below (T44.setTop (mkF m 467 #[.val (.int p1), .val (.int p2), .val (.int p3), .val (.long q4), .second, .val (.long q5), .second, .val (.int (Voff p1)), .val (.int (Vs p1)), .val (.int (Vn p2)), .val (.int (Vd p3)), .unset, .unset, .unset, .unset, .unset] [(.int (Vd p3)), (.int (Vn p2)), (.int (Vs p1)), (.int (Voff p1)), (.int (21 : Int32)), (.int (21 : Int32)), (.ref b2), (.ref b2)])) _
    refine XS.lloadN X44.here hx rfl (hb hby at_467) rfl ?_
    show Steps p.tables e below (T44.setTop (mkF m 468 #[.val (.int p1), .val (.int p2), .val (.int p3), .val (.long q4), .second, .val (.long q5), .second, .val (.int (Voff p1)), .val (.int (Vs p1)), .val (.int (Vn p2)), .val (.int (Vd p3)), .unset, .unset, .unset, .unset, .unset] [(.long q4), (.int (Vd p3)), (.int (Vn p2)), (.int (Vs p1)), (.int (Voff p1)), (.int (21 : Int32)), (.int (21 : Int32)), (.ref b2), (.ref b2)])) _
    refine XS.lload X44.here hx rfl (hb hby at_468) rfl ?_
    show Steps p.tables e below (T44.setTop (mkF m 470 #[.val (.int p1), .val (.int p2), .val (.int p3), .val (.long q4), .second, .val (.long q5), .second, .val (.int (Voff p1)), .val (.int (Vs p1)), .val (.int (Vn p2)), .val (.int (Vd p3)), .unset, .unset, .unset, .unset, .unset] [(.long q5), (.long q4), (.int (Vd p3)), (.int (Vn p2)), (.int (Vs p1)), (.int (Voff p1)), (.int (21 : Int32)), (.int (21 : Int32)), (.ref b2), (.ref b2)])) _
    refine st45 _ ?_
    show Steps p.tables e below (T45.setTop (mkF m 473 #[.val (.int p1), .val (.int p2), .val (.int p3), .val (.long q4), .second, .val (.long q5), .second, .val (.int (Voff p1)), .val (.int (Vs p1)), .val (.int (Vn p2)), .val (.int (Vd p3)), .unset, .unset, .unset, .unset, .unset] [(.int (F1 (21 : Int32) (Voff p1) (Vs p1) (Vn p2) (Vd p3) q4 q5)), (.int (21 : Int32)), (.ref b2), (.ref b2)])) _
    refine st46 _ ?_
    show Steps p.tables e below (T46.setTop (mkF m 474 #[.val (.int p1), .val (.int p2), .val (.int p3), .val (.long q4), .second, .val (.long q5), .second, .val (.int (Voff p1)), .val (.int (Vs p1)), .val (.int (Vn p2)), .val (.int (Vd p3)), .unset, .unset, .unset, .unset, .unset] [(.ref b2)])) _
    refine XS.dup X46.here hx rfl (hb hby at_474) rfl rfl ?_
    show Steps p.tables e below (T46.setTop (mkF m 475 #[.val (.int p1), .val (.int p2), .val (.int p3), .val (.long q4), .second, .val (.long q5), .second, .val (.int (Voff p1)), .val (.int (Vs p1)), .val (.int (Vn p2)), .val (.int (Vd p3)), .unset, .unset, .unset, .unset, .unset] [(.ref b2), (.ref b2)])) _
    refine XS.bipush X46.here hx rfl (hb hby at_475) ?_
    show Steps p.tables e below (T46.setTop (mkF m 477 #[.val (.int p1), .val (.int p2), .val (.int p3), .val (.long q4), .second, .val (.long q5), .second, .val (.int (Voff p1)), .val (.int (Vs p1)), .val (.int (Vn p2)), .val (.int (Vd p3)), .unset, .unset, .unset, .unset, .unset] [(.int (22 : Int32)), (.ref b2), (.ref b2)])) _
    refine XS.bipush X46.here hx rfl (hb hby at_477) ?_
    show Steps p.tables e below (T46.setTop (mkF m 479 #[.val (.int p1), .val (.int p2), .val (.int p3), .val (.long q4), .second, .val (.long q5), .second, .val (.int (Voff p1)), .val (.int (Vs p1)), .val (.int (Vn p2)), .val (.int (Vd p3)), .unset, .unset, .unset, .unset, .unset] [(.int (22 : Int32)), (.int (22 : Int32)), (.ref b2), (.ref b2)])) _
    refine XS.iload X46.here hx rfl (hb hby at_479) rfl ?_
    show Steps p.tables e below (T46.setTop (mkF m 481 #[.val (.int p1), .val (.int p2), .val (.int p3), .val (.long q4), .second, .val (.long q5), .second, .val (.int (Voff p1)), .val (.int (Vs p1)), .val (.int (Vn p2)), .val (.int (Vd p3)), .unset, .unset, .unset, .unset, .unset] [(.int (Voff p1)), (.int (22 : Int32)), (.int (22 : Int32)), (.ref b2), (.ref b2)])) _
    refine XS.iload X46.here hx rfl (hb hby at_481) rfl ?_
    show Steps p.tables e below (T46.setTop (mkF m 483 #[.val (.int p1), .val (.int p2), .val (.int p3), .val (.long q4), .second, .val (.long q5), .second, .val (.int (Voff p1)), .val (.int (Vs p1)), .val (.int (Vn p2)), .val (.int (Vd p3)), .unset, .unset, .unset, .unset, .unset] [(.int (Vs p1)), (.int (Voff p1)), (.int (22 : Int32)), (.int (22 : Int32)), (.ref b2), (.ref b2)])) _
    refine XS.iload X46.here hx rfl (hb hby at_483) rfl ?_
    show Steps p.tables e below (T46.setTop (mkF m 485 #[.val (.int p1), .val (.int p2), .val (.int p3), .val (.long q4), .second, .val (.long q5), .second, .val (.int (Voff p1)), .val (.int (Vs p1)), .val (.int (Vn p2)), .val (.int (Vd p3)), .unset, .unset, .unset, .unset, .unset] [(.int (Vn p2)), (.int (Vs p1)), (.int (Voff p1)), (.int (22 : Int32)), (.int (22 : Int32)), (.ref b2), (.ref b2)])) _
    refine XS.iload X46.here hx rfl (hb hby at_485) rfl ?_
    show Steps p.tables e below (T46.setTop (mkF m 487 #[.val (.int p1), .val (.int p2), .val (.int p3), .val (.long q4), .second, .val (.long q5), .second, .val (.int (Voff p1)), .val (.int (Vs p1)), .val (.int (Vn p2)), .val (.int (Vd p3)), .unset, .unset, .unset, .unset, .unset] [(.int (Vd p3)), (.int (Vn p2)), (.int (Vs p1)), (.int (Voff p1)), (.int (22 : Int32)), (.int (22 : Int32)), (.ref b2), (.ref b2)])) _
    refine XS.lloadN X46.here hx rfl (hb hby at_487) rfl ?_
    show Steps p.tables e below (T46.setTop (mkF m 488 #[.val (.int p1), .val (.int p2), .val (.int p3), .val (.long q4), .second, .val (.long q5), .second, .val (.int (Voff p1)), .val (.int (Vs p1)), .val (.int (Vn p2)), .val (.int (Vd p3)), .unset, .unset, .unset, .unset, .unset] [(.long q4), (.int (Vd p3)), (.int (Vn p2)), (.int (Vs p1)), (.int (Voff p1)), (.int (22 : Int32)), (.int (22 : Int32)), (.ref b2), (.ref b2)])) _
    refine XS.lload X46.here hx rfl (hb hby at_488) rfl ?_
    show Steps p.tables e below (T46.setTop (mkF m 490 #[.val (.int p1), .val (.int p2), .val (.int p3), .val (.long q4), .second, .val (.long q5), .second, .val (.int (Voff p1)), .val (.int (Vs p1)), .val (.int (Vn p2)), .val (.int (Vd p3)), .unset, .unset, .unset, .unset, .unset] [(.long q5), (.long q4), (.int (Vd p3)), (.int (Vn p2)), (.int (Vs p1)), (.int (Voff p1)), (.int (22 : Int32)), (.int (22 : Int32)), (.ref b2), (.ref b2)])) _
    refine st47 _ ?_
    show Steps p.tables e below (T47.setTop (mkF m 493 #[.val (.int p1), .val (.int p2), .val (.int p3), .val (.long q4), .second, .val (.long q5), .second, .val (.int (Voff p1)), .val (.int (Vs p1)), .val (.int (Vn p2)), .val (.int (Vd p3)), .unset, .unset, .unset, .unset, .unset] [(.int (F1 (22 : Int32) (Voff p1) (Vs p1) (Vn p2) (Vd p3) q4 q5)), (.int (22 : Int32)), (.ref b2), (.ref b2)])) _
    refine st48 _ ?_
    show Steps p.tables e below (T48.setTop (mkF m 494 #[.val (.int p1), .val (.int p2), .val (.int p3), .val (.long q4), .second, .val (.long q5), .second, .val (.int (Voff p1)), .val (.int (Vs p1)), .val (.int (Vn p2)), .val (.int (Vd p3)), .unset, .unset, .unset, .unset, .unset] [(.ref b2)])) _
    refine XS.dup X48.here hx rfl (hb hby at_494) rfl rfl ?_
    show Steps p.tables e below (T48.setTop (mkF m 495 #[.val (.int p1), .val (.int p2), .val (.int p3), .val (.long q4), .second, .val (.long q5), .second, .val (.int (Voff p1)), .val (.int (Vs p1)), .val (.int (Vn p2)), .val (.int (Vd p3)), .unset, .unset, .unset, .unset, .unset] [(.ref b2), (.ref b2)])) _
    refine XS.bipush X48.here hx rfl (hb hby at_495) ?_
    show Steps p.tables e below (T48.setTop (mkF m 497 #[.val (.int p1), .val (.int p2), .val (.int p3), .val (.long q4), .second, .val (.long q5), .second, .val (.int (Voff p1)), .val (.int (Vs p1)), .val (.int (Vn p2)), .val (.int (Vd p3)), .unset, .unset, .unset, .unset, .unset] [(.int (23 : Int32)), (.ref b2), (.ref b2)])) _
    refine XS.bipush X48.here hx rfl (hb hby at_497) ?_
    show Steps p.tables e below (T48.setTop (mkF m 499 #[.val (.int p1), .val (.int p2), .val (.int p3), .val (.long q4), .second, .val (.long q5), .second, .val (.int (Voff p1)), .val (.int (Vs p1)), .val (.int (Vn p2)), .val (.int (Vd p3)), .unset, .unset, .unset, .unset, .unset] [(.int (23 : Int32)), (.int (23 : Int32)), (.ref b2), (.ref b2)])) _
    refine XS.iload X48.here hx rfl (hb hby at_499) rfl ?_
    show Steps p.tables e below (T48.setTop (mkF m 501 #[.val (.int p1), .val (.int p2), .val (.int p3), .val (.long q4), .second, .val (.long q5), .second, .val (.int (Voff p1)), .val (.int (Vs p1)), .val (.int (Vn p2)), .val (.int (Vd p3)), .unset, .unset, .unset, .unset, .unset] [(.int (Voff p1)), (.int (23 : Int32)), (.int (23 : Int32)), (.ref b2), (.ref b2)])) _
    refine XS.iload X48.here hx rfl (hb hby at_501) rfl ?_
    show Steps p.tables e below (T48.setTop (mkF m 503 #[.val (.int p1), .val (.int p2), .val (.int p3), .val (.long q4), .second, .val (.long q5), .second, .val (.int (Voff p1)), .val (.int (Vs p1)), .val (.int (Vn p2)), .val (.int (Vd p3)), .unset, .unset, .unset, .unset, .unset] [(.int (Vs p1)), (.int (Voff p1)), (.int (23 : Int32)), (.int (23 : Int32)), (.ref b2), (.ref b2)])) _
    refine XS.iload X48.here hx rfl (hb hby at_503) rfl ?_
    show Steps p.tables e below (T48.setTop (mkF m 505 #[.val (.int p1), .val (.int p2), .val (.int p3), .val (.long q4), .second, .val (.long q5), .second, .val (.int (Voff p1)), .val (.int (Vs p1)), .val (.int (Vn p2)), .val (.int (Vd p3)), .unset, .unset, .unset, .unset, .unset] [(.int (Vn p2)), (.int (Vs p1)), (.int (Voff p1)), (.int (23 : Int32)), (.int (23 : Int32)), (.ref b2), (.ref b2)])) _
    refine XS.iload X48.here hx rfl (hb hby at_505) rfl ?_
    show Steps p.tables e below (T48.setTop (mkF m 507 #[.val (.int p1), .val (.int p2), .val (.int p3), .val (.long q4), .second, .val (.long q5), .second, .val (.int (Voff p1)), .val (.int (Vs p1)), .val (.int (Vn p2)), .val (.int (Vd p3)), .unset, .unset, .unset, .unset, .unset] [(.int (Vd p3)), (.int (Vn p2)), (.int (Vs p1)), (.int (Voff p1)), (.int (23 : Int32)), (.int (23 : Int32)), (.ref b2), (.ref b2)])) _
    refine XS.lloadN X48.here hx rfl (hb hby at_507) rfl ?_
    show Steps p.tables e below (T48.setTop (mkF m 508 #[.val (.int p1), .val (.int p2), .val (.int p3), .val (.long q4), .second, .val (.long q5), .second, .val (.int (Voff p1)), .val (.int (Vs p1)), .val (.int (Vn p2)), .val (.int (Vd p3)), .unset, .unset, .unset, .unset, .unset] [(.long q4), (.int (Vd p3)), (.int (Vn p2)), (.int (Vs p1)), (.int (Voff p1)), (.int (23 : Int32)), (.int (23 : Int32)), (.ref b2), (.ref b2)])) _
    refine XS.lload X48.here hx rfl (hb hby at_508) rfl ?_
    show Steps p.tables e below (T48.setTop (mkF m 510 #[.val (.int p1), .val (.int p2), .val (.int p3), .val (.long q4), .second, .val (.long q5), .second, .val (.int (Voff p1)), .val (.int (Vs p1)), .val (.int (Vn p2)), .val (.int (Vd p3)), .unset, .unset, .unset, .unset, .unset] [(.long q5), (.long q4), (.int (Vd p3)), (.int (Vn p2)), (.int (Vs p1)), (.int (Voff p1)), (.int (23 : Int32)), (.int (23 : Int32)), (.ref b2), (.ref b2)])) _
    refine st49 _ ?_
    show Steps p.tables e below (T49.setTop (mkF m 513 #[.val (.int p1), .val (.int p2), .val (.int p3), .val (.long q4), .second, .val (.long q5), .second, .val (.int (Voff p1)), .val (.int (Vs p1)), .val (.int (Vn p2)), .val (.int (Vd p3)), .unset, .unset, .unset, .unset, .unset] [(.int (F1 (23 : Int32) (Voff p1) (Vs p1) (Vn p2) (Vd p3) q4 q5)), (.int (23 : Int32)), (.ref b2), (.ref b2)])) _
    refine st50 _ ?_
    show Steps p.tables e below (T50.setTop (mkF m 514 #[.val (.int p1), .val (.int p2), .val (.int p3), .val (.long q4), .second, .val (.long q5), .second, .val (.int (Voff p1)), .val (.int (Vs p1)), .val (.int (Vn p2)), .val (.int (Vd p3)), .unset, .unset, .unset, .unset, .unset] [(.ref b2)])) _
    refine XS.dup X50.here hx rfl (hb hby at_514) rfl rfl ?_
    show Steps p.tables e below (T50.setTop (mkF m 515 #[.val (.int p1), .val (.int p2), .val (.int p3), .val (.long q4), .second, .val (.long q5), .second, .val (.int (Voff p1)), .val (.int (Vs p1)), .val (.int (Vn p2)), .val (.int (Vd p3)), .unset, .unset, .unset, .unset, .unset] [(.ref b2), (.ref b2)])) _
    refine XS.bipush X50.here hx rfl (hb hby at_515) ?_
    show Steps p.tables e below (T50.setTop (mkF m 517 #[.val (.int p1), .val (.int p2), .val (.int p3), .val (.long q4), .second, .val (.long q5), .second, .val (.int (Voff p1)), .val (.int (Vs p1)), .val (.int (Vn p2)), .val (.int (Vd p3)), .unset, .unset, .unset, .unset, .unset] [(.int (24 : Int32)), (.ref b2), (.ref b2)])) _
    refine XS.bipush X50.here hx rfl (hb hby at_517) ?_
    show Steps p.tables e below (T50.setTop (mkF m 519 #[.val (.int p1), .val (.int p2), .val (.int p3), .val (.long q4), .second, .val (.long q5), .second, .val (.int (Voff p1)), .val (.int (Vs p1)), .val (.int (Vn p2)), .val (.int (Vd p3)), .unset, .unset, .unset, .unset, .unset] [(.int (24 : Int32)), (.int (24 : Int32)), (.ref b2), (.ref b2)])) _
    refine XS.iload X50.here hx rfl (hb hby at_519) rfl ?_
    show Steps p.tables e below (T50.setTop (mkF m 521 #[.val (.int p1), .val (.int p2), .val (.int p3), .val (.long q4), .second, .val (.long q5), .second, .val (.int (Voff p1)), .val (.int (Vs p1)), .val (.int (Vn p2)), .val (.int (Vd p3)), .unset, .unset, .unset, .unset, .unset] [(.int (Voff p1)), (.int (24 : Int32)), (.int (24 : Int32)), (.ref b2), (.ref b2)])) _
    refine XS.iload X50.here hx rfl (hb hby at_521) rfl ?_
    show Steps p.tables e below (T50.setTop (mkF m 523 #[.val (.int p1), .val (.int p2), .val (.int p3), .val (.long q4), .second, .val (.long q5), .second, .val (.int (Voff p1)), .val (.int (Vs p1)), .val (.int (Vn p2)), .val (.int (Vd p3)), .unset, .unset, .unset, .unset, .unset] [(.int (Vs p1)), (.int (Voff p1)), (.int (24 : Int32)), (.int (24 : Int32)), (.ref b2), (.ref b2)])) _
    refine XS.iload X50.here hx rfl (hb hby at_523) rfl ?_
    show Steps p.tables e below (T50.setTop (mkF m 525 #[.val (.int p1), .val (.int p2), .val (.int p3), .val (.long q4), .second, .val (.long q5), .second, .val (.int (Voff p1)), .val (.int (Vs p1)), .val (.int (Vn p2)), .val (.int (Vd p3)), .unset, .unset, .unset, .unset, .unset] [(.int (Vn p2)), (.int (Vs p1)), (.int (Voff p1)), (.int (24 : Int32)), (.int (24 : Int32)), (.ref b2), (.ref b2)])) _
    refine XS.iload X50.here hx rfl (hb hby at_525) rfl ?_
    show Steps p.tables e below (T50.setTop (mkF m 527 #[.val (.int p1), .val (.int p2), .val (.int p3), .val (.long q4), .second, .val (.long q5), .second, .val (.int (Voff p1)), .val (.int (Vs p1)), .val (.int (Vn p2)), .val (.int (Vd p3)), .unset, .unset, .unset, .unset, .unset] [(.int (Vd p3)), (.int (Vn p2)), (.int (Vs p1)), (.int (Voff p1)), (.int (24 : Int32)), (.int (24 : Int32)), (.ref b2), (.ref b2)])) _
    refine XS.lloadN X50.here hx rfl (hb hby at_527) rfl ?_
    show Steps p.tables e below (T50.setTop (mkF m 528 #[.val (.int p1), .val (.int p2), .val (.int p3), .val (.long q4), .second, .val (.long q5), .second, .val (.int (Voff p1)), .val (.int (Vs p1)), .val (.int (Vn p2)), .val (.int (Vd p3)), .unset, .unset, .unset, .unset, .unset] [(.long q4), (.int (Vd p3)), (.int (Vn p2)), (.int (Vs p1)), (.int (Voff p1)), (.int (24 : Int32)), (.int (24 : Int32)), (.ref b2), (.ref b2)])) _
    refine XS.lload X50.here hx rfl (hb hby at_528) rfl ?_
    show Steps p.tables e below (T50.setTop (mkF m 530 #[.val (.int p1), .val (.int p2), .val (.int p3), .val (.long q4), .second, .val (.long q5), .second, .val (.int (Voff p1)), .val (.int (Vs p1)), .val (.int (Vn p2)), .val (.int (Vd p3)), .unset, .unset, .unset, .unset, .unset] [(.long q5), (.long q4), (.int (Vd p3)), (.int (Vn p2)), (.int (Vs p1)), (.int (Voff p1)), (.int (24 : Int32)), (.int (24 : Int32)), (.ref b2), (.ref b2)])) _
    refine st51 _ ?_
    show Steps p.tables e below (T51.setTop (mkF m 533 #[.val (.int p1), .val (.int p2), .val (.int p3), .val (.long q4), .second, .val (.long q5), .second, .val (.int (Voff p1)), .val (.int (Vs p1)), .val (.int (Vn p2)), .val (.int (Vd p3)), .unset, .unset, .unset, .unset, .unset] [(.int (F1 (24 : Int32) (Voff p1) (Vs p1) (Vn p2) (Vd p3) q4 q5)), (.int (24 : Int32)), (.ref b2), (.ref b2)])) _
    refine st52 _ ?_
    show Steps p.tables e below (T52.setTop (mkF m 534 #[.val (.int p1), .val (.int p2), .val (.int p3), .val (.long q4), .second, .val (.long q5), .second, .val (.int (Voff p1)), .val (.int (Vs p1)), .val (.int (Vn p2)), .val (.int (Vd p3)), .unset, .unset, .unset, .unset, .unset] [(.ref b2)])) _
    refine XS.dup X52.here hx rfl (hb hby at_534) rfl rfl ?_
    show Steps p.tables e below (T52.setTop (mkF m 535 #[.val (.int p1), .val (.int p2), .val (.int p3), .val (.long q4), .second, .val (.long q5), .second, .val (.int (Voff p1)), .val (.int (Vs p1)), .val (.int (Vn p2)), .val (.int (Vd p3)), .unset, .unset, .unset, .unset, .unset] [(.ref b2), (.ref b2)])) _
    refine XS.bipush X52.here hx rfl (hb hby at_535) ?_
    show Steps p.tables e below (T52.setTop (mkF m 537 #[.val (.int p1), .val (.int p2), .val (.int p3), .val (.long q4), .second, .val (.long q5), .second, .val (.int (Voff p1)), .val (.int (Vs p1)), .val (.int (Vn p2)), .val (.int (Vd p3)), .unset, .unset, .unset, .unset, .unset] [(.int (25 : Int32)), (.ref b2), (.ref b2)])) _
    refine XS.bipush X52.here hx rfl (hb hby at_537) ?_
    show Steps p.tables e below (T52.setTop (mkF m 539 #[.val (.int p1), .val (.int p2), .val (.int p3), .val (.long q4), .second, .val (.long q5), .second, .val (.int (Voff p1)), .val (.int (Vs p1)), .val (.int (Vn p2)), .val (.int (Vd p3)), .unset, .unset, .unset, .unset, .unset] [(.int (25 : Int32)), (.int (25 : Int32)), (.ref b2), (.ref b2)])) _
    refine XS.iload X52.here hx rfl (hb hby at_539) rfl ?_
    show Steps p.tables e below (T52.setTop (mkF m 541 #[.val (.int p1), .val (.int p2), .val (.int p3), .val (.long q4), .second, .val (.long q5), .second, .val (.int (Voff p1)), .val (.int (Vs p1)), .val (.int (Vn p2)), .val (.int (Vd p3)), .unset, .unset, .unset, .unset, .unset] [(.int (Voff p1)), (.int (25 : Int32)), (.int (25 : Int32)), (.ref b2), (.ref b2)])) _
    refine XS.iload X52.here hx rfl (hb hby at_541) rfl ?_
    show Steps p.tables e below (T52.setTop (mkF m 543 #[.val (.int p1), .val (.int p2), .val (.int p3), .val (.long q4), .second, .val (.long q5), .second, .val (.int (Voff p1)), .val (.int (Vs p1)), .val (.int (Vn p2)), .val (.int (Vd p3)), .unset, .unset, .unset, .unset, .unset] [(.int (Vs p1)), (.int (Voff p1)), (.int (25 : Int32)), (.int (25 : Int32)), (.ref b2), (.ref b2)])) _
    refine XS.iload X52.here hx rfl (hb hby at_543) rfl ?_
    show Steps p.tables e below (T52.setTop (mkF m 545 #[.val (.int p1), .val (.int p2), .val (.int p3), .val (.long q4), .second, .val (.long q5), .second, .val (.int (Voff p1)), .val (.int (Vs p1)), .val (.int (Vn p2)), .val (.int (Vd p3)), .unset, .unset, .unset, .unset, .unset] [(.int (Vn p2)), (.int (Vs p1)), (.int (Voff p1)), (.int (25 : Int32)), (.int (25 : Int32)), (.ref b2), (.ref b2)])) _
    refine XS.iload X52.here hx rfl (hb hby at_545) rfl ?_
    show Steps p.tables e below (T52.setTop (mkF m 547 #[.val (.int p1), .val (.int p2), .val (.int p3), .val (.long q4), .second, .val (.long q5), .second, .val (.int (Voff p1)), .val (.int (Vs p1)), .val (.int (Vn p2)), .val (.int (Vd p3)), .unset, .unset, .unset, .unset, .unset] [(.int (Vd p3)), (.int (Vn p2)), (.int (Vs p1)), (.int (Voff p1)), (.int (25 : Int32)), (.int (25 : Int32)), (.ref b2), (.ref b2)])) _
    refine XS.lloadN X52.here hx rfl (hb hby at_547) rfl ?_
    show Steps p.tables e below (T52.setTop (mkF m 548 #[.val (.int p1), .val (.int p2), .val (.int p3), .val (.long q4), .second, .val (.long q5), .second, .val (.int (Voff p1)), .val (.int (Vs p1)), .val (.int (Vn p2)), .val (.int (Vd p3)), .unset, .unset, .unset, .unset, .unset] [(.long q4), (.int (Vd p3)), (.int (Vn p2)), (.int (Vs p1)), (.int (Voff p1)), (.int (25 : Int32)), (.int (25 : Int32)), (.ref b2), (.ref b2)])) _
    refine XS.lload X52.here hx rfl (hb hby at_548) rfl ?_
    show Steps p.tables e below (T52.setTop (mkF m 550 #[.val (.int p1), .val (.int p2), .val (.int p3), .val (.long q4), .second, .val (.long q5), .second, .val (.int (Voff p1)), .val (.int (Vs p1)), .val (.int (Vn p2)), .val (.int (Vd p3)), .unset, .unset, .unset, .unset, .unset] [(.long q5), (.long q4), (.int (Vd p3)), (.int (Vn p2)), (.int (Vs p1)), (.int (Voff p1)), (.int (25 : Int32)), (.int (25 : Int32)), (.ref b2), (.ref b2)])) _
    refine st53 _ ?_
    show Steps p.tables e below (T53.setTop (mkF m 553 #[.val (.int p1), .val (.int p2), .val (.int p3), .val (.long q4), .second, .val (.long q5), .second, .val (.int (Voff p1)), .val (.int (Vs p1)), .val (.int (Vn p2)), .val (.int (Vd p3)), .unset, .unset, .unset, .unset, .unset] [(.int (F1 (25 : Int32) (Voff p1) (Vs p1) (Vn p2) (Vd p3) q4 q5)), (.int (25 : Int32)), (.ref b2), (.ref b2)])) _
    refine st54 _ ?_
    show Steps p.tables e below (T54.setTop (mkF m 554 #[.val (.int p1), .val (.int p2), .val (.int p3), .val (.long q4), .second, .val (.long q5), .second, .val (.int (Voff p1)), .val (.int (Vs p1)), .val (.int (Vn p2)), .val (.int (Vd p3)), .unset, .unset, .unset, .unset, .unset] [(.ref b2)])) _
    refine XS.dup X54.here hx rfl (hb hby at_554) rfl rfl ?_
    show Steps p.tables e below (T54.setTop (mkF m 555 #[.val (.int p1), .val (.int p2), .val (.int p3), .val (.long q4), .second, .val (.long q5), .second, .val (.int (Voff p1)), .val (.int (Vs p1)), .val (.int (Vn p2)), .val (.int (Vd p3)), .unset, .unset, .unset, .unset, .unset] [(.ref b2), (.ref b2)])) _
    refine XS.bipush X54.here hx rfl (hb hby at_555) ?_
    show Steps p.tables e below (T54.setTop (mkF m 557 #[.val (.int p1), .val (.int p2), .val (.int p3), .val (.long q4), .second, .val (.long q5), .second, .val (.int (Voff p1)), .val (.int (Vs p1)), .val (.int (Vn p2)), .val (.int (Vd p3)), .unset, .unset, .unset, .unset, .unset] [(.int (26 : Int32)), (.ref b2), (.ref b2)])) _
    refine XS.bipush X54.here hx rfl (hb hby at_557) ?_
    show Steps p.tables e below (T54.setTop (mkF m 559 #[.val (.int p1), .val (.int p2), .val (.int p3), .val (.long q4), .second, .val (.long q5), .second, .val (.int (Voff p1)), .val (.int (Vs p1)), .val (.int (Vn p2)), .val (.int (Vd p3)), .unset, .unset, .unset, .unset, .unset] [(.int (26 : Int32)), (.int (26 : Int32)), (.ref b2), (.ref b2)])) _
    refine XS.iload X54.here hx rfl (hb hby at_559) rfl ?_
    show Steps p.tables e below (T54.setTop (mkF m 561 #[.val (.int p1), .val (.int p2), .val (.int p3), .val (.long q4), .second, .val (.long q5), .second, .val (.int (Voff p1)), .val (.int (Vs p1)), .val (.int (Vn p2)), .val (.int (Vd p3)), .unset, .unset, .unset, .unset, .unset] [(.int (Voff p1)), (.int (26 : Int32)), (.int (26 : Int32)), (.ref b2), (.ref b2)])) _
    refine XS.iload X54.here hx rfl (hb hby at_561) rfl ?_
    show Steps p.tables e below (T54.setTop (mkF m 563 #[.val (.int p1), .val (.int p2), .val (.int p3), .val (.long q4), .second, .val (.long q5), .second, .val (.int (Voff p1)), .val (.int (Vs p1)), .val (.int (Vn p2)), .val (.int (Vd p3)), .unset, .unset, .unset, .unset, .unset] [(.int (Vs p1)), (.int (Voff p1)), (.int (26 : Int32)), (.int (26 : Int32)), (.ref b2), (.ref b2)])) _
    refine XS.iload X54.here hx rfl (hb hby at_563) rfl ?_
    show Steps p.tables e below (T54.setTop (mkF m 565 #[.val (.int p1), .val (.int p2), .val (.int p3), .val (.long q4), .second, .val (.long q5), .second, .val (.int (Voff p1)), .val (.int (Vs p1)), .val (.int (Vn p2)), .val (.int (Vd p3)), .unset, .unset, .unset, .unset, .unset] [(.int (Vn p2)), (.int (Vs p1)), (.int (Voff p1)), (.int (26 : Int32)), (.int (26 : Int32)), (.ref b2), (.ref b2)])) _
    refine XS.iload X54.here hx rfl (hb hby at_565) rfl ?_
    show Steps p.tables e below (T54.setTop (mkF m 567 #[.val (.int p1), .val (.int p2), .val (.int p3), .val (.long q4), .second, .val (.long q5), .second, .val (.int (Voff p1)), .val (.int (Vs p1)), .val (.int (Vn p2)), .val (.int (Vd p3)), .unset, .unset, .unset, .unset, .unset] [(.int (Vd p3)), (.int (Vn p2)), (.int (Vs p1)), (.int (Voff p1)), (.int (26 : Int32)), (.int (26 : Int32)), (.ref b2), (.ref b2)])) _
    refine XS.lloadN X54.here hx rfl (hb hby at_567) rfl ?_
    show Steps p.tables e below (T54.setTop (mkF m 568 #[.val (.int p1), .val (.int p2), .val (.int p3), .val (.long q4), .second, .val (.long q5), .second, .val (.int (Voff p1)), .val (.int (Vs p1)), .val (.int (Vn p2)), .val (.int (Vd p3)), .unset, .unset, .unset, .unset, .unset] [(.long q4), (.int (Vd p3)), (.int (Vn p2)), (.int (Vs p1)), (.int (Voff p1)), (.int (26 : Int32)), (.int (26 : Int32)), (.ref b2), (.ref b2)])) _
    refine XS.lload X54.here hx rfl (hb hby at_568) rfl ?_
    show Steps p.tables e below (T54.setTop (mkF m 570 #[.val (.int p1), .val (.int p2), .val (.int p3), .val (.long q4), .second, .val (.long q5), .second, .val (.int (Voff p1)), .val (.int (Vs p1)), .val (.int (Vn p2)), .val (.int (Vd p3)), .unset, .unset, .unset, .unset, .unset] [(.long q5), (.long q4), (.int (Vd p3)), (.int (Vn p2)), (.int (Vs p1)), (.int (Voff p1)), (.int (26 : Int32)), (.int (26 : Int32)), (.ref b2), (.ref b2)])) _
    refine st55 _ ?_
    show Steps p.tables e below (T55.setTop (mkF m 573 #[.val (.int p1), .val (.int p2), .val (.int p3), .val (.long q4), .second, .val (.long q5), .second, .val (.int (Voff p1)), .val (.int (Vs p1)), .val (.int (Vn p2)), .val (.int (Vd p3)), .unset, .unset, .unset, .unset, .unset] [(.int (F1 (26 : Int32) (Voff p1) (Vs p1) (Vn p2) (Vd p3) q4 q5)), (.int (26 : Int32)), (.ref b2), (.ref b2)])) _
    refine st56 _ ?_
    show Steps p.tables e below (T56.setTop (mkF m 574 #[.val (.int p1), .val (.int p2), .val (.int p3), .val (.long q4), .second, .val (.long q5), .second, .val (.int (Voff p1)), .val (.int (Vs p1)), .val (.int (Vn p2)), .val (.int (Vd p3)), .unset, .unset, .unset, .unset, .unset] [(.ref b2)])) _
    refine XS.astore X56.here hx rfl (hb hby at_574) rfl rfl (l' := #[.val (.int p1), .val (.int p2), .val (.int p3), .val (.long q4), .second, .val (.long q5), .second, .val (.int (Voff p1)), .val (.int (Vs p1)), .val (.int (Vn p2)), .val (.int (Vd p3)), .val (.ref b2), .unset, .unset, .unset, .unset]) rfl ?_
    show Steps p.tables e below (T56.setTop (mkF m 576 #[.val (.int p1), .val (.int p2), .val (.int p3), .val (.long q4), .second, .val (.long q5), .second, .val (.int (Voff p1)), .val (.int (Vs p1)), .val (.int (Vn p2)), .val (.int (Vd p3)), .val (.ref b2), .unset, .unset, .unset, .unset] [])) _
    refine XS.iload X56.here hx rfl (hb hby at_576) rfl ?_
    show Steps p.tables e below (T56.setTop (mkF m 578 #[.val (.int p1), .val (.int p2), .val (.int p3), .val (.long q4), .second, .val (.long q5), .second, .val (.int (Voff p1)), .val (.int (Vs p1)), .val (.int (Vn p2)), .val (.int (Vd p3)), .val (.ref b2), .unset, .unset, .unset, .unset] [(.int (Voff p1))])) _
    refine XS.istore X56.here hx rfl (hb hby at_578) rfl (l' := #[.val (.int p1), .val (.int p2), .val (.int p3), .val (.long q4), .second, .val (.long q5), .second, .val (.int (Voff p1)), .val (.int (Vs p1)), .val (.int (Vn p2)), .val (.int (Vd p3)), .val (.ref b2), .val (.int (Voff p1)), .unset, .unset, .unset]) rfl ?_
    show Steps p.tables e below (T56.setTop (mkF m 580 #[.val (.int p1), .val (.int p2), .val (.int p3), .val (.long q4), .second, .val (.long q5), .second, .val (.int (Voff p1)), .val (.int (Vs p1)), .val (.int (Vn p2)), .val (.int (Vd p3)), .val (.ref b2), .val (.int (Voff p1)), .unset, .unset, .unset] [])) _
    refine XS.iload X56.here hx rfl (hb hby at_580) rfl ?_
    show Steps p.tables e below (T56.setTop (mkF m 582 #[.val (.int p1), .val (.int p2), .val (.int p3), .val (.long q4), .second, .val (.long q5), .second, .val (.int (Voff p1)), .val (.int (Vs p1)), .val (.int (Vn p2)), .val (.int (Vd p3)), .val (.ref b2), .val (.int (Voff p1)), .unset, .unset, .unset] [(.int (Voff p1))])) _
    refine XS.iload X56.here hx rfl (hb hby at_582) rfl ?_
    show Steps p.tables e below (T56.setTop (mkF m 584 #[.val (.int p1), .val (.int p2), .val (.int p3), .val (.long q4), .second, .val (.long q5), .second, .val (.int (Voff p1)), .val (.int (Vs p1)), .val (.int (Vn p2)), .val (.int (Vd p3)), .val (.ref b2), .val (.int (Voff p1)), .unset, .unset, .unset] [(.int (Vs p1)), (.int (Voff p1))])) _
    refine own_cut (A := T56.setTop (mkF m 592 #[.val (.int p1), .val (.int p2), .val (.int p3), .val (.long q4), .second, .val (.long q5), .second, .val (.int (Voff p1)), .val (.int (Vs p1)), .val (.int (Vn p2)), .val (.int (Vd p3)), .val (.ref b2), .val (.int (Voff p1)), .unset, .unset, .unset] [(.int (Vone p1)), (.int (Voff p1))])) (fun join => ?_) ?_
    · show Steps p.tables e below (T56.setTop (mkF m 584 #[.val (.int p1), .val (.int p2), .val (.int p3), .val (.long q4), .second, .val (.long q5), .second, .val (.int (Voff p1)), .val (.int (Vs p1)), .val (.int (Vn p2)), .val (.int (Vd p3)), .val (.ref b2), .val (.int (Voff p1)), .unset, .unset, .unset] [(.int (Vs p1)), (.int (Voff p1))])) _
      by_cases hc584_57 : (0 : Int32) < (Vs p1)
      · refine XS.ifNo X56.here hx rfl (hb hby at_584) rfl ((if0 _ _).trans (tlt hc584_57).2.2.2) ?_
        show Steps p.tables e below (T56.setTop (mkF m 587 #[.val (.int p1), .val (.int p2), .val (.int p3), .val (.long q4), .second, .val (.long q5), .second, .val (.int (Voff p1)), .val (.int (Vs p1)), .val (.int (Vn p2)), .val (.int (Vd p3)), .val (.ref b2), .val (.int (Voff p1)), .unset, .unset, .unset] [(.int (Voff p1))])) _
        refine XS.iconst X56.here hx rfl (hb hby at_587) ?_
        show Steps p.tables e below (T56.setTop (mkF m 588 #[.val (.int p1), .val (.int p2), .val (.int p3), .val (.long q4), .second, .val (.long q5), .second, .val (.int (Voff p1)), .val (.int (Vs p1)), .val (.int (Vn p2)), .val (.int (Vd p3)), .val (.ref b2), .val (.int (Voff p1)), .unset, .unset, .unset] [(.int (1 : Int32)), (.int (Voff p1))])) _
        refine XS.goto X56.here hx rfl (pc0 := 588) (pc' := 592) rfl (hb hby at_588) (by decide) (by decide) ?_
        rw [show (Vone p1) = (1 : Int32) by rw [Vone, if_pos hc584_57]] at join
        exact join
      · refine XS.ifYes X56.here hx rfl (pc0 := 584) (pc' := 591) rfl (hb hby at_584) rfl ((if0 _ _).trans (flt hc584_57).2.2.2) (by decide) (by decide) ?_
        show Steps p.tables e below (T56.setTop (mkF m 591 #[.val (.int p1), .val (.int p2), .val (.int p3), .val (.long q4), .second, .val (.long q5), .second, .val (.int (Voff p1)), .val (.int (Vs p1)), .val (.int (Vn p2)), .val (.int (Vd p3)), .val (.ref b2), .val (.int (Voff p1)), .unset, .unset, .unset] [(.int (Voff p1))])) _
        refine XS.iconst X56.here hx rfl (hb hby at_591) ?_
        rw [show (Vone p1) = (0 : Int32) by rw [Vone, if_neg hc584_57]] at join
        exact join
    show Steps p.tables e below (T56.setTop (mkF m 592 #[.val (.int p1), .val (.int p2), .val (.int p3), .val (.long q4), .second, .val (.long q5), .second, .val (.int (Voff p1)), .val (.int (Vs p1)), .val (.int (Vn p2)), .val (.int (Vd p3)), .val (.ref b2), .val (.int (Voff p1)), .unset, .unset, .unset] [(.int (Vone p1)), (.int (Voff p1))])) _
    refine XS.iadd X56.here hx rfl (hb hby at_592) rfl ?_
    show Steps p.tables e below (T56.setTop (mkF m 593 #[.val (.int p1), .val (.int p2), .val (.int p3), .val (.long q4), .second, .val (.long q5), .second, .val (.int (Voff p1)), .val (.int (Vs p1)), .val (.int (Vn p2)), .val (.int (Vd p3)), .val (.ref b2), .val (.int (Voff p1)), .unset, .unset, .unset] [(.int ((Voff p1) + (Vone p1)))])) _
    refine XS.iload X56.here hx rfl (hb hby at_593) rfl ?_
    show Steps p.tables e below (T56.setTop (mkF m 595 #[.val (.int p1), .val (.int p2), .val (.int p3), .val (.long q4), .second, .val (.long q5), .second, .val (.int (Voff p1)), .val (.int (Vs p1)), .val (.int (Vn p2)), .val (.int (Vd p3)), .val (.ref b2), .val (.int (Voff p1)), .unset, .unset, .unset] [(.int (Vn p2)), (.int ((Voff p1) + (Vone p1)))])) _
    refine XS.iadd X56.here hx rfl (hb hby at_595) rfl ?_
    show Steps p.tables e below (T56.setTop (mkF m 596 #[.val (.int p1), .val (.int p2), .val (.int p3), .val (.long q4), .second, .val (.long q5), .second, .val (.int (Voff p1)), .val (.int (Vs p1)), .val (.int (Vn p2)), .val (.int (Vd p3)), .val (.ref b2), .val (.int (Voff p1)), .unset, .unset, .unset] [(.int (((Voff p1) + (Vone p1)) + (Vn p2)))])) _
    show Steps p.tables e below (T56.setTop (mkF m 596 #[.val (.int p1), .val (.int p2), .val (.int p3), .val (.long q4), .second, .val (.long q5), .second, .val (.int (Voff p1)), .val (.int (Vs p1)), .val (.int (Vn p2)), .val (.int (Vd p3)), .val (.ref b2), .val (.int (Voff p1)), .unset, .unset, .unset] [(.int (Vto p1 p2))])) _
    refine XS.istore X56.here hx rfl (hb hby at_596) rfl (l' := #[.val (.int p1), .val (.int p2), .val (.int p3), .val (.long q4), .second, .val (.long q5), .second, .val (.int (Voff p1)), .val (.int (Vs p1)), .val (.int (Vn p2)), .val (.int (Vd p3)), .val (.ref b2), .val (.int (Voff p1)), .val (.int (Vto p1 p2)), .unset, .unset]) rfl ?_
    show Steps p.tables e below (T56.setTop (mkF m 598 #[.val (.int p1), .val (.int p2), .val (.int p3), .val (.long q4), .second, .val (.long q5), .second, .val (.int (Voff p1)), .val (.int (Vs p1)), .val (.int (Vn p2)), .val (.int (Vd p3)), .val (.ref b2), .val (.int (Voff p1)), .val (.int (Vto p1 p2)), .unset, .unset] [])) _
    refine XS.iload X56.here hx rfl (hb hby at_598) rfl ?_
    show Steps p.tables e below (T56.setTop (mkF m 600 #[.val (.int p1), .val (.int p2), .val (.int p3), .val (.long q4), .second, .val (.long q5), .second, .val (.int (Voff p1)), .val (.int (Vs p1)), .val (.int (Vn p2)), .val (.int (Vd p3)), .val (.ref b2), .val (.int (Voff p1)), .val (.int (Vto p1 p2)), .unset, .unset] [(.int (Vs p1))])) _
    refine XS.iconst X56.here hx rfl (hb hby at_600) ?_
    show Steps p.tables e below (T56.setTop (mkF m 601 #[.val (.int p1), .val (.int p2), .val (.int p3), .val (.long q4), .second, .val (.long q5), .second, .val (.int (Voff p1)), .val (.int (Vs p1)), .val (.int (Vn p2)), .val (.int (Vd p3)), .val (.ref b2), .val (.int (Voff p1)), .val (.int (Vto p1 p2)), .unset, .unset] [(.int (1 : Int32)), (.int (Vs p1))])) _
    refine own_cut (A := T56.setTop (mkF m 625 #[.val (.int p1), .val (.int p2), .val (.int p3), .val (.long q4), .second, .val (.long q5), .second, .val (.int (Voff p1)), .val (.int (Vs p1)), .val (.int (Vn p2)), .val (.int (Vd p3)), .val (.ref b2), .val (.int (Voff p1)), .val (.int (Vto p1 p2)), .unset, .unset] [(.int (Vplain p1 p2 p3))])) (fun join => ?_) ?_
    · show Steps p.tables e below (T56.setTop (mkF m 601 #[.val (.int p1), .val (.int p2), .val (.int p3), .val (.long q4), .second, .val (.long q5), .second, .val (.int (Voff p1)), .val (.int (Vs p1)), .val (.int (Vn p2)), .val (.int (Vd p3)), .val (.ref b2), .val (.int (Voff p1)), .val (.int (Vto p1 p2)), .unset, .unset] [(.int (1 : Int32)), (.int (Vs p1))])) _
      by_cases hc601_58 : (Vs p1) = (1 : Int32)
      · refine XS.icmpYes X56.here hx rfl (pc0 := 601) (pc' := 624) rfl (hb hby at_601) rfl (teq hc601_58).1 (by decide) (by decide) ?_
        show Steps p.tables e below (T56.setTop (mkF m 624 #[.val (.int p1), .val (.int p2), .val (.int p3), .val (.long q4), .second, .val (.long q5), .second, .val (.int (Voff p1)), .val (.int (Vs p1)), .val (.int (Vn p2)), .val (.int (Vd p3)), .val (.ref b2), .val (.int (Voff p1)), .val (.int (Vto p1 p2)), .unset, .unset] [])) _
        refine XS.iconst X56.here hx rfl (hb hby at_624) ?_
        rw [show (Vplain p1 p2 p3) = (0 : Int32) by rw [Vplain, if_pos hc601_58]] at join
        exact join
      · refine XS.icmpNo X56.here hx rfl (hb hby at_601) rfl (feq hc601_58).1 ?_
        show Steps p.tables e below (T56.setTop (mkF m 604 #[.val (.int p1), .val (.int p2), .val (.int p3), .val (.long q4), .second, .val (.long q5), .second, .val (.int (Voff p1)), .val (.int (Vs p1)), .val (.int (Vn p2)), .val (.int (Vd p3)), .val (.ref b2), .val (.int (Voff p1)), .val (.int (Vto p1 p2)), .unset, .unset] [])) _
        refine XS.iload X56.here hx rfl (hb hby at_604) rfl ?_
        show Steps p.tables e below (T56.setTop (mkF m 606 #[.val (.int p1), .val (.int p2), .val (.int p3), .val (.long q4), .second, .val (.long q5), .second, .val (.int (Voff p1)), .val (.int (Vs p1)), .val (.int (Vn p2)), .val (.int (Vd p3)), .val (.ref b2), .val (.int (Voff p1)), .val (.int (Vto p1 p2)), .unset, .unset] [(.int (Vd p3))])) _
        by_cases hc606_59 : (Vd p3) = (0 : Int32)
        · refine XS.ifNo X56.here hx rfl (hb hby at_606) rfl ((if0 _ _).trans (teq hc606_59).2) ?_
          show Steps p.tables e below (T56.setTop (mkF m 609 #[.val (.int p1), .val (.int p2), .val (.int p3), .val (.long q4), .second, .val (.long q5), .second, .val (.int (Voff p1)), .val (.int (Vs p1)), .val (.int (Vn p2)), .val (.int (Vd p3)), .val (.ref b2), .val (.int (Voff p1)), .val (.int (Vto p1 p2)), .unset, .unset] [])) _
          refine XS.iload X56.here hx rfl (hb hby at_609) rfl ?_
          show Steps p.tables e below (T56.setTop (mkF m 611 #[.val (.int p1), .val (.int p2), .val (.int p3), .val (.long q4), .second, .val (.long q5), .second, .val (.int (Voff p1)), .val (.int (Vs p1)), .val (.int (Vn p2)), .val (.int (Vd p3)), .val (.ref b2), .val (.int (Voff p1)), .val (.int (Vto p1 p2)), .unset, .unset] [(.int (Vn p2))])) _
          refine XS.iconst X56.here hx rfl (hb hby at_611) ?_
          show Steps p.tables e below (T56.setTop (mkF m 612 #[.val (.int p1), .val (.int p2), .val (.int p3), .val (.long q4), .second, .val (.long q5), .second, .val (.int (Voff p1)), .val (.int (Vs p1)), .val (.int (Vn p2)), .val (.int (Vd p3)), .val (.ref b2), .val (.int (Voff p1)), .val (.int (Vto p1 p2)), .unset, .unset] [(.int (1 : Int32)), (.int (Vn p2))])) _
          by_cases hc612_60 : (Vn p2) = (1 : Int32)
          · refine XS.icmpNo X56.here hx rfl (hb hby at_612) rfl (teq hc612_60).2 ?_
            show Steps p.tables e below (T56.setTop (mkF m 615 #[.val (.int p1), .val (.int p2), .val (.int p3), .val (.long q4), .second, .val (.long q5), .second, .val (.int (Voff p1)), .val (.int (Vs p1)), .val (.int (Vn p2)), .val (.int (Vd p3)), .val (.ref b2), .val (.int (Voff p1)), .val (.int (Vto p1 p2)), .unset, .unset] [])) _
            refine XS.iload X56.here hx rfl (hb hby at_615) rfl ?_
            show Steps p.tables e below (T56.setTop (mkF m 617 #[.val (.int p1), .val (.int p2), .val (.int p3), .val (.long q4), .second, .val (.long q5), .second, .val (.int (Voff p1)), .val (.int (Vs p1)), .val (.int (Vn p2)), .val (.int (Vd p3)), .val (.ref b2), .val (.int (Voff p1)), .val (.int (Vto p1 p2)), .unset, .unset] [(.int (Vs p1))])) _
            by_cases hc617_61 : (Vs p1) = (0 : Int32)
            · refine XS.ifNo X56.here hx rfl (hb hby at_617) rfl ((if0 _ _).trans (teq hc617_61).2) ?_
              show Steps p.tables e below (T56.setTop (mkF m 620 #[.val (.int p1), .val (.int p2), .val (.int p3), .val (.long q4), .second, .val (.long q5), .second, .val (.int (Voff p1)), .val (.int (Vs p1)), .val (.int (Vn p2)), .val (.int (Vd p3)), .val (.ref b2), .val (.int (Voff p1)), .val (.int (Vto p1 p2)), .unset, .unset] [])) _
              refine XS.iconst X56.here hx rfl (hb hby at_620) ?_
              show Steps p.tables e below (T56.setTop (mkF m 621 #[.val (.int p1), .val (.int p2), .val (.int p3), .val (.long q4), .second, .val (.long q5), .second, .val (.int (Voff p1)), .val (.int (Vs p1)), .val (.int (Vn p2)), .val (.int (Vd p3)), .val (.ref b2), .val (.int (Voff p1)), .val (.int (Vto p1 p2)), .unset, .unset] [(.int (1 : Int32))])) _
              refine XS.goto X56.here hx rfl (pc0 := 621) (pc' := 625) rfl (hb hby at_621) (by decide) (by decide) ?_
              rw [show (Vplain p1 p2 p3) = (1 : Int32) by rw [Vplain, if_neg hc601_58, if_pos hc606_59, if_pos hc612_60, if_pos hc617_61]] at join
              exact join
            · refine XS.ifYes X56.here hx rfl (pc0 := 617) (pc' := 624) rfl (hb hby at_617) rfl ((if0 _ _).trans (feq hc617_61).2) (by decide) (by decide) ?_
              show Steps p.tables e below (T56.setTop (mkF m 624 #[.val (.int p1), .val (.int p2), .val (.int p3), .val (.long q4), .second, .val (.long q5), .second, .val (.int (Voff p1)), .val (.int (Vs p1)), .val (.int (Vn p2)), .val (.int (Vd p3)), .val (.ref b2), .val (.int (Voff p1)), .val (.int (Vto p1 p2)), .unset, .unset] [])) _
              refine XS.iconst X56.here hx rfl (hb hby at_624) ?_
              rw [show (Vplain p1 p2 p3) = (0 : Int32) by rw [Vplain, if_neg hc601_58, if_pos hc606_59, if_pos hc612_60, if_neg hc617_61]] at join
              exact join
          · refine XS.icmpYes X56.here hx rfl (pc0 := 612) (pc' := 624) rfl (hb hby at_612) rfl (feq hc612_60).2 (by decide) (by decide) ?_
            show Steps p.tables e below (T56.setTop (mkF m 624 #[.val (.int p1), .val (.int p2), .val (.int p3), .val (.long q4), .second, .val (.long q5), .second, .val (.int (Voff p1)), .val (.int (Vs p1)), .val (.int (Vn p2)), .val (.int (Vd p3)), .val (.ref b2), .val (.int (Voff p1)), .val (.int (Vto p1 p2)), .unset, .unset] [])) _
            refine XS.iconst X56.here hx rfl (hb hby at_624) ?_
            rw [show (Vplain p1 p2 p3) = (0 : Int32) by rw [Vplain, if_neg hc601_58, if_pos hc606_59, if_neg hc612_60]] at join
            exact join
        · refine XS.ifYes X56.here hx rfl (pc0 := 606) (pc' := 620) rfl (hb hby at_606) rfl ((if0 _ _).trans (feq hc606_59).2) (by decide) (by decide) ?_
          show Steps p.tables e below (T56.setTop (mkF m 620 #[.val (.int p1), .val (.int p2), .val (.int p3), .val (.long q4), .second, .val (.long q5), .second, .val (.int (Voff p1)), .val (.int (Vs p1)), .val (.int (Vn p2)), .val (.int (Vd p3)), .val (.ref b2), .val (.int (Voff p1)), .val (.int (Vto p1 p2)), .unset, .unset] [])) _
          refine XS.iconst X56.here hx rfl (hb hby at_620) ?_
          show Steps p.tables e below (T56.setTop (mkF m 621 #[.val (.int p1), .val (.int p2), .val (.int p3), .val (.long q4), .second, .val (.long q5), .second, .val (.int (Voff p1)), .val (.int (Vs p1)), .val (.int (Vn p2)), .val (.int (Vd p3)), .val (.ref b2), .val (.int (Voff p1)), .val (.int (Vto p1 p2)), .unset, .unset] [(.int (1 : Int32))])) _
          refine XS.goto X56.here hx rfl (pc0 := 621) (pc' := 625) rfl (hb hby at_621) (by decide) (by decide) ?_
          rw [show (Vplain p1 p2 p3) = (1 : Int32) by rw [Vplain, if_neg hc601_58, if_neg hc606_59]] at join
          exact join
    show Steps p.tables e below (T56.setTop (mkF m 625 #[.val (.int p1), .val (.int p2), .val (.int p3), .val (.long q4), .second, .val (.long q5), .second, .val (.int (Voff p1)), .val (.int (Vs p1)), .val (.int (Vn p2)), .val (.int (Vd p3)), .val (.ref b2), .val (.int (Voff p1)), .val (.int (Vto p1 p2)), .unset, .unset] [(.int (Vplain p1 p2 p3))])) _
    refine XS.istore X56.here hx rfl (hb hby at_625) rfl (l' := #[.val (.int p1), .val (.int p2), .val (.int p3), .val (.long q4), .second, .val (.long q5), .second, .val (.int (Voff p1)), .val (.int (Vs p1)), .val (.int (Vn p2)), .val (.int (Vd p3)), .val (.ref b2), .val (.int (Voff p1)), .val (.int (Vto p1 p2)), .val (.int (Vplain p1 p2 p3)), .unset]) rfl ?_
    show Steps p.tables e below (T56.setTop (mkF m 627 #[.val (.int p1), .val (.int p2), .val (.int p3), .val (.long q4), .second, .val (.long q5), .second, .val (.int (Voff p1)), .val (.int (Vs p1)), .val (.int (Vn p2)), .val (.int (Vd p3)), .val (.ref b2), .val (.int (Voff p1)), .val (.int (Vto p1 p2)), .val (.int (Vplain p1 p2 p3)), .unset] [])) _
    refine XS.aload X56.here hx rfl (hb hby at_627) rfl rfl ?_
    show Steps p.tables e below (T56.setTop (mkF m 629 #[.val (.int p1), .val (.int p2), .val (.int p3), .val (.long q4), .second, .val (.long q5), .second, .val (.int (Voff p1)), .val (.int (Vs p1)), .val (.int (Vn p2)), .val (.int (Vd p3)), .val (.ref b2), .val (.int (Voff p1)), .val (.int (Vto p1 p2)), .val (.int (Vplain p1 p2 p3)), .unset] [(.ref b2)])) _
    refine XS.iload X56.here hx rfl (hb hby at_629) rfl ?_
    show Steps p.tables e below (T56.setTop (mkF m 631 #[.val (.int p1), .val (.int p2), .val (.int p3), .val (.long q4), .second, .val (.long q5), .second, .val (.int (Voff p1)), .val (.int (Vs p1)), .val (.int (Vn p2)), .val (.int (Vd p3)), .val (.ref b2), .val (.int (Voff p1)), .val (.int (Vto p1 p2)), .val (.int (Vplain p1 p2 p3)), .unset] [(.int (Voff p1)), (.ref b2)])) _
    refine XS.iload X56.here hx rfl (hb hby at_631) rfl ?_
    show Steps p.tables e below (T56.setTop (mkF m 633 #[.val (.int p1), .val (.int p2), .val (.int p3), .val (.long q4), .second, .val (.long q5), .second, .val (.int (Voff p1)), .val (.int (Vs p1)), .val (.int (Vn p2)), .val (.int (Vd p3)), .val (.ref b2), .val (.int (Voff p1)), .val (.int (Vto p1 p2)), .val (.int (Vplain p1 p2 p3)), .unset] [(.int (Vto p1 p2)), (.int (Voff p1)), (.ref b2)])) _
    refine st62 _ ?_
    show Steps p.tables e below (T62.setTop (mkF m 636 #[.val (.int p1), .val (.int p2), .val (.int p3), .val (.long q4), .second, .val (.long q5), .second, .val (.int (Voff p1)), .val (.int (Vs p1)), .val (.int (Vn p2)), .val (.int (Vd p3)), .val (.ref b2), .val (.int (Voff p1)), .val (.int (Vto p1 p2)), .val (.int (Vplain p1 p2 p3)), .unset] [(.int (F2 (Voff p1) (Vto p1 p2) (fun j => nar .byte (F1 j (Voff p1) (Vs p1) (Vn p2) (Vd p3) q4 q5))))])) _
    refine XS.istore X62.here hx rfl (hb hby at_636) rfl (l' := #[.val (.int p1), .val (.int p2), .val (.int p3), .val (.long q4), .second, .val (.long q5), .second, .val (.int (Voff p1)), .val (.int (Vs p1)), .val (.int (Vn p2)), .val (.int (Vd p3)), .val (.ref b2), .val (.int (Voff p1)), .val (.int (Vto p1 p2)), .val (.int (Vplain p1 p2 p3)), .val (.int (F2 (Voff p1) (Vto p1 p2) (fun j => nar .byte (F1 j (Voff p1) (Vs p1) (Vn p2) (Vd p3) q4 q5))))]) rfl ?_
    show Steps p.tables e below (T62.setTop (mkF m 638 #[.val (.int p1), .val (.int p2), .val (.int p3), .val (.long q4), .second, .val (.long q5), .second, .val (.int (Voff p1)), .val (.int (Vs p1)), .val (.int (Vn p2)), .val (.int (Vd p3)), .val (.ref b2), .val (.int (Voff p1)), .val (.int (Vto p1 p2)), .val (.int (Vplain p1 p2 p3)), .val (.int (F2 (Voff p1) (Vto p1 p2) (fun j => nar .byte (F1 j (Voff p1) (Vs p1) (Vn p2) (Vd p3) q4 q5))))] [])) _
    refine XS.iload X62.here hx rfl (hb hby at_638) rfl ?_
    show Steps p.tables e below (T62.setTop (mkF m 640 #[.val (.int p1), .val (.int p2), .val (.int p3), .val (.long q4), .second, .val (.long q5), .second, .val (.int (Voff p1)), .val (.int (Vs p1)), .val (.int (Vn p2)), .val (.int (Vd p3)), .val (.ref b2), .val (.int (Voff p1)), .val (.int (Vto p1 p2)), .val (.int (Vplain p1 p2 p3)), .val (.int (F2 (Voff p1) (Vto p1 p2) (fun j => nar .byte (F1 j (Voff p1) (Vs p1) (Vn p2) (Vd p3) q4 q5))))] [(.int (Vn p2))])) _
    refine XS.bipush X62.here hx rfl (hb hby at_640) ?_
    show Steps p.tables e below (T62.setTop (mkF m 642 #[.val (.int p1), .val (.int p2), .val (.int p3), .val (.long q4), .second, .val (.long q5), .second, .val (.int (Voff p1)), .val (.int (Vs p1)), .val (.int (Vn p2)), .val (.int (Vd p3)), .val (.ref b2), .val (.int (Voff p1)), .val (.int (Vto p1 p2)), .val (.int (Vplain p1 p2 p3)), .val (.int (F2 (Voff p1) (Vto p1 p2) (fun j => nar .byte (F1 j (Voff p1) (Vs p1) (Vn p2) (Vd p3) q4 q5))))] [(.int (18 : Int32)), (.int (Vn p2))])) _
    by_cases hc642_63 : (18 : Int32) < (Vn p2)
    · refine XS.icmpYes X62.here hx rfl (pc0 := 642) (pc' := 658) rfl (hb hby at_642) rfl (tlt hc642_63).2.2.1 (by decide) (by decide) ?_
      show Steps p.tables e below (T62.setTop (mkF m 658 #[.val (.int p1), .val (.int p2), .val (.int p3), .val (.long q4), .second, .val (.long q5), .second, .val (.int (Voff p1)), .val (.int (Vs p1)), .val (.int (Vn p2)), .val (.int (Vd p3)), .val (.ref b2), .val (.int (Voff p1)), .val (.int (Vto p1 p2)), .val (.int (Vplain p1 p2 p3)), .val (.int (F2 (Voff p1) (Vto p1 p2) (fun j => nar .byte (F1 j (Voff p1) (Vs p1) (Vn p2) (Vd p3) q4 q5))))] [])) _
      refine XS.iload X62.here hx rfl (hb hby at_658) rfl ?_
      show Steps p.tables e below (T62.setTop (mkF m 660 #[.val (.int p1), .val (.int p2), .val (.int p3), .val (.long q4), .second, .val (.long q5), .second, .val (.int (Voff p1)), .val (.int (Vs p1)), .val (.int (Vn p2)), .val (.int (Vd p3)), .val (.ref b2), .val (.int (Voff p1)), .val (.int (Vto p1 p2)), .val (.int (Vplain p1 p2 p3)), .val (.int (F2 (Voff p1) (Vto p1 p2) (fun j => nar .byte (F1 j (Voff p1) (Vs p1) (Vn p2) (Vd p3) q4 q5))))] [(.int (Vn p2))])) _
      refine XS.bipush X62.here hx rfl (hb hby at_660) ?_
      show Steps p.tables e below (T62.setTop (mkF m 662 #[.val (.int p1), .val (.int p2), .val (.int p3), .val (.long q4), .second, .val (.long q5), .second, .val (.int (Voff p1)), .val (.int (Vs p1)), .val (.int (Vn p2)), .val (.int (Vd p3)), .val (.ref b2), .val (.int (Voff p1)), .val (.int (Vto p1 p2)), .val (.int (Vplain p1 p2 p3)), .val (.int (F2 (Voff p1) (Vto p1 p2) (fun j => nar .byte (F1 j (Voff p1) (Vs p1) (Vn p2) (Vd p3) q4 q5))))] [(.int (19 : Int32)), (.int (Vn p2))])) _
      by_cases hc662_64 : (Vn p2) = (19 : Int32)
      · refine XS.icmpNo X62.here hx rfl (hb hby at_662) rfl (teq hc662_64).2 ?_
        show Steps p.tables e below (T62.setTop (mkF m 665 #[.val (.int p1), .val (.int p2), .val (.int p3), .val (.long q4), .second, .val (.long q5), .second, .val (.int (Voff p1)), .val (.int (Vs p1)), .val (.int (Vn p2)), .val (.int (Vd p3)), .val (.ref b2), .val (.int (Voff p1)), .val (.int (Vto p1 p2)), .val (.int (Vplain p1 p2 p3)), .val (.int (F2 (Voff p1) (Vto p1 p2) (fun j => nar .byte (F1 j (Voff p1) (Vs p1) (Vn p2) (Vd p3) q4 q5))))] [])) _
        refine XS.iload X62.here hx rfl (hb hby at_665) rfl ?_
        show Steps p.tables e below (T62.setTop (mkF m 667 #[.val (.int p1), .val (.int p2), .val (.int p3), .val (.long q4), .second, .val (.long q5), .second, .val (.int (Voff p1)), .val (.int (Vs p1)), .val (.int (Vn p2)), .val (.int (Vd p3)), .val (.ref b2), .val (.int (Voff p1)), .val (.int (Vto p1 p2)), .val (.int (Vplain p1 p2 p3)), .val (.int (F2 (Voff p1) (Vto p1 p2) (fun j => nar .byte (F1 j (Voff p1) (Vs p1) (Vn p2) (Vd p3) q4 q5))))] [(.int (F2 (Voff p1) (Vto p1 p2) (fun j => nar .byte (F1 j (Voff p1) (Vs p1) (Vn p2) (Vd p3) q4 q5))))])) _
        by_cases hc667_65 : (F2 (Voff p1) (Vto p1 p2) (fun j => nar .byte (F1 j (Voff p1) (Vs p1) (Vn p2) (Vd p3) q4 q5))) = (0 : Int32)
        · refine XS.ifYes X62.here hx rfl (pc0 := 667) (pc' := 675) rfl (hb hby at_667) rfl ((if0 _ _).trans (teq hc667_65).1) (by decide) (by decide) ?_
          show Steps p.tables e below (T62.setTop (mkF m 675 #[.val (.int p1), .val (.int p2), .val (.int p3), .val (.long q4), .second, .val (.long q5), .second, .val (.int (Voff p1)), .val (.int (Vs p1)), .val (.int (Vn p2)), .val (.int (Vd p3)), .val (.ref b2), .val (.int (Voff p1)), .val (.int (Vto p1 p2)), .val (.int (Vplain p1 p2 p3)), .val (.int (F2 (Voff p1) (Vto p1 p2) (fun j => nar .byte (F1 j (Voff p1) (Vs p1) (Vn p2) (Vd p3) q4 q5))))] [])) _
          refine XS.iconst X62.here hx rfl (hb hby at_675) ?_
          show Steps p.tables e below (T62.setTop (mkF m 676 #[.val (.int p1), .val (.int p2), .val (.int p3), .val (.long q4), .second, .val (.long q5), .second, .val (.int (Voff p1)), .val (.int (Vs p1)), .val (.int (Vn p2)), .val (.int (Vd p3)), .val (.ref b2), .val (.int (Voff p1)), .val (.int (Vto p1 p2)), .val (.int (Vplain p1 p2 p3)), .val (.int (F2 (Voff p1) (Vto p1 p2) (fun j => nar .byte (F1 j (Voff p1) (Vs p1) (Vn p2) (Vd p3) q4 q5))))] [(.int (1 : Int32))])) _
          refine XS.goto X62.here hx rfl (pc0 := 676) (pc' := 680) rfl (hb hby at_676) (by decide) (by decide) ?_
          show Steps p.tables e below (T62.setTop (mkF m 680 #[.val (.int p1), .val (.int p2), .val (.int p3), .val (.long q4), .second, .val (.long q5), .second, .val (.int (Voff p1)), .val (.int (Vs p1)), .val (.int (Vn p2)), .val (.int (Vd p3)), .val (.ref b2), .val (.int (Voff p1)), .val (.int (Vto p1 p2)), .val (.int (Vplain p1 p2 p3)), .val (.int (F2 (Voff p1) (Vto p1 p2) (fun j => nar .byte (F1 j (Voff p1) (Vs p1) (Vn p2) (Vd p3) q4 q5))))] [(.int (1 : Int32))])) _
          rw [if_pos hc642_63, if_pos hc662_64, if_pos hc667_65] at hr
          exact retN X62 hx (t := .boolean) Bd.returns (by simp) (hb hby at_680) hr
        · refine XS.ifNo X62.here hx rfl (hb hby at_667) rfl ((if0 _ _).trans (feq hc667_65).1) ?_
          show Steps p.tables e below (T62.setTop (mkF m 670 #[.val (.int p1), .val (.int p2), .val (.int p3), .val (.long q4), .second, .val (.long q5), .second, .val (.int (Voff p1)), .val (.int (Vs p1)), .val (.int (Vn p2)), .val (.int (Vd p3)), .val (.ref b2), .val (.int (Voff p1)), .val (.int (Vto p1 p2)), .val (.int (Vplain p1 p2 p3)), .val (.int (F2 (Voff p1) (Vto p1 p2) (fun j => nar .byte (F1 j (Voff p1) (Vs p1) (Vn p2) (Vd p3) q4 q5))))] [])) _
          refine XS.iload X62.here hx rfl (hb hby at_670) rfl ?_
          show Steps p.tables e below (T62.setTop (mkF m 672 #[.val (.int p1), .val (.int p2), .val (.int p3), .val (.long q4), .second, .val (.long q5), .second, .val (.int (Voff p1)), .val (.int (Vs p1)), .val (.int (Vn p2)), .val (.int (Vd p3)), .val (.ref b2), .val (.int (Voff p1)), .val (.int (Vto p1 p2)), .val (.int (Vplain p1 p2 p3)), .val (.int (F2 (Voff p1) (Vto p1 p2) (fun j => nar .byte (F1 j (Voff p1) (Vs p1) (Vn p2) (Vd p3) q4 q5))))] [(.int (Vplain p1 p2 p3))])) _
          by_cases hc672_66 : (Vplain p1 p2 p3) = (0 : Int32)
          · refine XS.ifYes X62.here hx rfl (pc0 := 672) (pc' := 679) rfl (hb hby at_672) rfl ((if0 _ _).trans (teq hc672_66).1) (by decide) (by decide) ?_
            show Steps p.tables e below (T62.setTop (mkF m 679 #[.val (.int p1), .val (.int p2), .val (.int p3), .val (.long q4), .second, .val (.long q5), .second, .val (.int (Voff p1)), .val (.int (Vs p1)), .val (.int (Vn p2)), .val (.int (Vd p3)), .val (.ref b2), .val (.int (Voff p1)), .val (.int (Vto p1 p2)), .val (.int (Vplain p1 p2 p3)), .val (.int (F2 (Voff p1) (Vto p1 p2) (fun j => nar .byte (F1 j (Voff p1) (Vs p1) (Vn p2) (Vd p3) q4 q5))))] [])) _
            refine XS.iconst X62.here hx rfl (hb hby at_679) ?_
            show Steps p.tables e below (T62.setTop (mkF m 680 #[.val (.int p1), .val (.int p2), .val (.int p3), .val (.long q4), .second, .val (.long q5), .second, .val (.int (Voff p1)), .val (.int (Vs p1)), .val (.int (Vn p2)), .val (.int (Vd p3)), .val (.ref b2), .val (.int (Voff p1)), .val (.int (Vto p1 p2)), .val (.int (Vplain p1 p2 p3)), .val (.int (F2 (Voff p1) (Vto p1 p2) (fun j => nar .byte (F1 j (Voff p1) (Vs p1) (Vn p2) (Vd p3) q4 q5))))] [(.int (0 : Int32))])) _
            rw [if_pos hc642_63, if_pos hc662_64, if_neg hc667_65, if_pos hc672_66] at hr
            exact retN X62 hx (t := .boolean) Bd.returns (by simp) (hb hby at_680) hr
          · refine XS.ifNo X62.here hx rfl (hb hby at_672) rfl ((if0 _ _).trans (feq hc672_66).1) ?_
            show Steps p.tables e below (T62.setTop (mkF m 675 #[.val (.int p1), .val (.int p2), .val (.int p3), .val (.long q4), .second, .val (.long q5), .second, .val (.int (Voff p1)), .val (.int (Vs p1)), .val (.int (Vn p2)), .val (.int (Vd p3)), .val (.ref b2), .val (.int (Voff p1)), .val (.int (Vto p1 p2)), .val (.int (Vplain p1 p2 p3)), .val (.int (F2 (Voff p1) (Vto p1 p2) (fun j => nar .byte (F1 j (Voff p1) (Vs p1) (Vn p2) (Vd p3) q4 q5))))] [])) _
            refine XS.iconst X62.here hx rfl (hb hby at_675) ?_
            show Steps p.tables e below (T62.setTop (mkF m 676 #[.val (.int p1), .val (.int p2), .val (.int p3), .val (.long q4), .second, .val (.long q5), .second, .val (.int (Voff p1)), .val (.int (Vs p1)), .val (.int (Vn p2)), .val (.int (Vd p3)), .val (.ref b2), .val (.int (Voff p1)), .val (.int (Vto p1 p2)), .val (.int (Vplain p1 p2 p3)), .val (.int (F2 (Voff p1) (Vto p1 p2) (fun j => nar .byte (F1 j (Voff p1) (Vs p1) (Vn p2) (Vd p3) q4 q5))))] [(.int (1 : Int32))])) _
            refine XS.goto X62.here hx rfl (pc0 := 676) (pc' := 680) rfl (hb hby at_676) (by decide) (by decide) ?_
            show Steps p.tables e below (T62.setTop (mkF m 680 #[.val (.int p1), .val (.int p2), .val (.int p3), .val (.long q4), .second, .val (.long q5), .second, .val (.int (Voff p1)), .val (.int (Vs p1)), .val (.int (Vn p2)), .val (.int (Vd p3)), .val (.ref b2), .val (.int (Voff p1)), .val (.int (Vto p1 p2)), .val (.int (Vplain p1 p2 p3)), .val (.int (F2 (Voff p1) (Vto p1 p2) (fun j => nar .byte (F1 j (Voff p1) (Vs p1) (Vn p2) (Vd p3) q4 q5))))] [(.int (1 : Int32))])) _
            rw [if_pos hc642_63, if_pos hc662_64, if_neg hc667_65, if_neg hc672_66] at hr
            exact retN X62 hx (t := .boolean) Bd.returns (by simp) (hb hby at_680) hr
      · refine XS.icmpYes X62.here hx rfl (pc0 := 662) (pc' := 681) rfl (hb hby at_662) rfl (feq hc662_64).2 (by decide) (by decide) ?_
        show Steps p.tables e below (T62.setTop (mkF m 681 #[.val (.int p1), .val (.int p2), .val (.int p3), .val (.long q4), .second, .val (.long q5), .second, .val (.int (Voff p1)), .val (.int (Vs p1)), .val (.int (Vn p2)), .val (.int (Vd p3)), .val (.ref b2), .val (.int (Voff p1)), .val (.int (Vto p1 p2)), .val (.int (Vplain p1 p2 p3)), .val (.int (F2 (Voff p1) (Vto p1 p2) (fun j => nar .byte (F1 j (Voff p1) (Vs p1) (Vn p2) (Vd p3) q4 q5))))] [])) _
        refine XS.iload X62.here hx rfl (hb hby at_681) rfl ?_
        show Steps p.tables e below (T62.setTop (mkF m 683 #[.val (.int p1), .val (.int p2), .val (.int p3), .val (.long q4), .second, .val (.long q5), .second, .val (.int (Voff p1)), .val (.int (Vs p1)), .val (.int (Vn p2)), .val (.int (Vd p3)), .val (.ref b2), .val (.int (Voff p1)), .val (.int (Vto p1 p2)), .val (.int (Vplain p1 p2 p3)), .val (.int (F2 (Voff p1) (Vto p1 p2) (fun j => nar .byte (F1 j (Voff p1) (Vs p1) (Vn p2) (Vd p3) q4 q5))))] [(.int (F2 (Voff p1) (Vto p1 p2) (fun j => nar .byte (F1 j (Voff p1) (Vs p1) (Vn p2) (Vd p3) q4 q5))))])) _
        by_cases hc683_67 : (F2 (Voff p1) (Vto p1 p2) (fun j => nar .byte (F1 j (Voff p1) (Vs p1) (Vn p2) (Vd p3) q4 q5))) = (0 : Int32)
        · refine XS.ifNo X62.here hx rfl (hb hby at_683) rfl ((if0 _ _).trans (teq hc683_67).2) ?_
          show Steps p.tables e below (T62.setTop (mkF m 686 #[.val (.int p1), .val (.int p2), .val (.int p3), .val (.long q4), .second, .val (.long q5), .second, .val (.int (Voff p1)), .val (.int (Vs p1)), .val (.int (Vn p2)), .val (.int (Vd p3)), .val (.ref b2), .val (.int (Voff p1)), .val (.int (Vto p1 p2)), .val (.int (Vplain p1 p2 p3)), .val (.int (F2 (Voff p1) (Vto p1 p2) (fun j => nar .byte (F1 j (Voff p1) (Vs p1) (Vn p2) (Vd p3) q4 q5))))] [])) _
          refine XS.iconst X62.here hx rfl (hb hby at_686) ?_
          show Steps p.tables e below (T62.setTop (mkF m 687 #[.val (.int p1), .val (.int p2), .val (.int p3), .val (.long q4), .second, .val (.long q5), .second, .val (.int (Voff p1)), .val (.int (Vs p1)), .val (.int (Vn p2)), .val (.int (Vd p3)), .val (.ref b2), .val (.int (Voff p1)), .val (.int (Vto p1 p2)), .val (.int (Vplain p1 p2 p3)), .val (.int (F2 (Voff p1) (Vto p1 p2) (fun j => nar .byte (F1 j (Voff p1) (Vs p1) (Vn p2) (Vd p3) q4 q5))))] [(.int (1 : Int32))])) _
          refine XS.goto X62.here hx rfl (pc0 := 687) (pc' := 691) rfl (hb hby at_687) (by decide) (by decide) ?_
          show Steps p.tables e below (T62.setTop (mkF m 691 #[.val (.int p1), .val (.int p2), .val (.int p3), .val (.long q4), .second, .val (.long q5), .second, .val (.int (Voff p1)), .val (.int (Vs p1)), .val (.int (Vn p2)), .val (.int (Vd p3)), .val (.ref b2), .val (.int (Voff p1)), .val (.int (Vto p1 p2)), .val (.int (Vplain p1 p2 p3)), .val (.int (F2 (Voff p1) (Vto p1 p2) (fun j => nar .byte (F1 j (Voff p1) (Vs p1) (Vn p2) (Vd p3) q4 q5))))] [(.int (1 : Int32))])) _
          rw [if_pos hc642_63, if_neg hc662_64, if_pos hc683_67] at hr
          exact retN X62 hx (t := .boolean) Bd.returns (by simp) (hb hby at_691) hr
        · refine XS.ifYes X62.here hx rfl (pc0 := 683) (pc' := 690) rfl (hb hby at_683) rfl ((if0 _ _).trans (feq hc683_67).2) (by decide) (by decide) ?_
          show Steps p.tables e below (T62.setTop (mkF m 690 #[.val (.int p1), .val (.int p2), .val (.int p3), .val (.long q4), .second, .val (.long q5), .second, .val (.int (Voff p1)), .val (.int (Vs p1)), .val (.int (Vn p2)), .val (.int (Vd p3)), .val (.ref b2), .val (.int (Voff p1)), .val (.int (Vto p1 p2)), .val (.int (Vplain p1 p2 p3)), .val (.int (F2 (Voff p1) (Vto p1 p2) (fun j => nar .byte (F1 j (Voff p1) (Vs p1) (Vn p2) (Vd p3) q4 q5))))] [])) _
          refine XS.iconst X62.here hx rfl (hb hby at_690) ?_
          show Steps p.tables e below (T62.setTop (mkF m 691 #[.val (.int p1), .val (.int p2), .val (.int p3), .val (.long q4), .second, .val (.long q5), .second, .val (.int (Voff p1)), .val (.int (Vs p1)), .val (.int (Vn p2)), .val (.int (Vd p3)), .val (.ref b2), .val (.int (Voff p1)), .val (.int (Vto p1 p2)), .val (.int (Vplain p1 p2 p3)), .val (.int (F2 (Voff p1) (Vto p1 p2) (fun j => nar .byte (F1 j (Voff p1) (Vs p1) (Vn p2) (Vd p3) q4 q5))))] [(.int (0 : Int32))])) _
          rw [if_pos hc642_63, if_neg hc662_64, if_neg hc683_67] at hr
          exact retN X62 hx (t := .boolean) Bd.returns (by simp) (hb hby at_691) hr
    · refine XS.icmpNo X62.here hx rfl (hb hby at_642) rfl (flt hc642_63).2.2.1 ?_
      show Steps p.tables e below (T62.setTop (mkF m 645 #[.val (.int p1), .val (.int p2), .val (.int p3), .val (.long q4), .second, .val (.long q5), .second, .val (.int (Voff p1)), .val (.int (Vs p1)), .val (.int (Vn p2)), .val (.int (Vd p3)), .val (.ref b2), .val (.int (Voff p1)), .val (.int (Vto p1 p2)), .val (.int (Vplain p1 p2 p3)), .val (.int (F2 (Voff p1) (Vto p1 p2) (fun j => nar .byte (F1 j (Voff p1) (Vs p1) (Vn p2) (Vd p3) q4 q5))))] [])) _
      refine XS.iload X62.here hx rfl (hb hby at_645) rfl ?_
      show Steps p.tables e below (T62.setTop (mkF m 647 #[.val (.int p1), .val (.int p2), .val (.int p3), .val (.long q4), .second, .val (.long q5), .second, .val (.int (Voff p1)), .val (.int (Vs p1)), .val (.int (Vn p2)), .val (.int (Vd p3)), .val (.ref b2), .val (.int (Voff p1)), .val (.int (Vto p1 p2)), .val (.int (Vplain p1 p2 p3)), .val (.int (F2 (Voff p1) (Vto p1 p2) (fun j => nar .byte (F1 j (Voff p1) (Vs p1) (Vn p2) (Vd p3) q4 q5))))] [(.int (F2 (Voff p1) (Vto p1 p2) (fun j => nar .byte (F1 j (Voff p1) (Vs p1) (Vn p2) (Vd p3) q4 q5))))])) _
      refine XS.iload X62.here hx rfl (hb hby at_647) rfl ?_
      show Steps p.tables e below (T62.setTop (mkF m 649 #[.val (.int p1), .val (.int p2), .val (.int p3), .val (.long q4), .second, .val (.long q5), .second, .val (.int (Voff p1)), .val (.int (Vs p1)), .val (.int (Vn p2)), .val (.int (Vd p3)), .val (.ref b2), .val (.int (Voff p1)), .val (.int (Vto p1 p2)), .val (.int (Vplain p1 p2 p3)), .val (.int (F2 (Voff p1) (Vto p1 p2) (fun j => nar .byte (F1 j (Voff p1) (Vs p1) (Vn p2) (Vd p3) q4 q5))))] [(.int (Vplain p1 p2 p3)), (.int (F2 (Voff p1) (Vto p1 p2) (fun j => nar .byte (F1 j (Voff p1) (Vs p1) (Vn p2) (Vd p3) q4 q5))))])) _
      by_cases hc649_68 : (F2 (Voff p1) (Vto p1 p2) (fun j => nar .byte (F1 j (Voff p1) (Vs p1) (Vn p2) (Vd p3) q4 q5))) = (Vplain p1 p2 p3)
      · refine XS.icmpNo X62.here hx rfl (hb hby at_649) rfl (teq hc649_68).2 ?_
        show Steps p.tables e below (T62.setTop (mkF m 652 #[.val (.int p1), .val (.int p2), .val (.int p3), .val (.long q4), .second, .val (.long q5), .second, .val (.int (Voff p1)), .val (.int (Vs p1)), .val (.int (Vn p2)), .val (.int (Vd p3)), .val (.ref b2), .val (.int (Voff p1)), .val (.int (Vto p1 p2)), .val (.int (Vplain p1 p2 p3)), .val (.int (F2 (Voff p1) (Vto p1 p2) (fun j => nar .byte (F1 j (Voff p1) (Vs p1) (Vn p2) (Vd p3) q4 q5))))] [])) _
        refine XS.iconst X62.here hx rfl (hb hby at_652) ?_
        show Steps p.tables e below (T62.setTop (mkF m 653 #[.val (.int p1), .val (.int p2), .val (.int p3), .val (.long q4), .second, .val (.long q5), .second, .val (.int (Voff p1)), .val (.int (Vs p1)), .val (.int (Vn p2)), .val (.int (Vd p3)), .val (.ref b2), .val (.int (Voff p1)), .val (.int (Vto p1 p2)), .val (.int (Vplain p1 p2 p3)), .val (.int (F2 (Voff p1) (Vto p1 p2) (fun j => nar .byte (F1 j (Voff p1) (Vs p1) (Vn p2) (Vd p3) q4 q5))))] [(.int (1 : Int32))])) _
        refine XS.goto X62.here hx rfl (pc0 := 653) (pc' := 657) rfl (hb hby at_653) (by decide) (by decide) ?_
        show Steps p.tables e below (T62.setTop (mkF m 657 #[.val (.int p1), .val (.int p2), .val (.int p3), .val (.long q4), .second, .val (.long q5), .second, .val (.int (Voff p1)), .val (.int (Vs p1)), .val (.int (Vn p2)), .val (.int (Vd p3)), .val (.ref b2), .val (.int (Voff p1)), .val (.int (Vto p1 p2)), .val (.int (Vplain p1 p2 p3)), .val (.int (F2 (Voff p1) (Vto p1 p2) (fun j => nar .byte (F1 j (Voff p1) (Vs p1) (Vn p2) (Vd p3) q4 q5))))] [(.int (1 : Int32))])) _
        rw [if_neg hc642_63, if_pos hc649_68] at hr
        exact retN X62 hx (t := .boolean) Bd.returns (by simp) (hb hby at_657) hr
      · refine XS.icmpYes X62.here hx rfl (pc0 := 649) (pc' := 656) rfl (hb hby at_649) rfl (feq hc649_68).2 (by decide) (by decide) ?_
        show Steps p.tables e below (T62.setTop (mkF m 656 #[.val (.int p1), .val (.int p2), .val (.int p3), .val (.long q4), .second, .val (.long q5), .second, .val (.int (Voff p1)), .val (.int (Vs p1)), .val (.int (Vn p2)), .val (.int (Vd p3)), .val (.ref b2), .val (.int (Voff p1)), .val (.int (Vto p1 p2)), .val (.int (Vplain p1 p2 p3)), .val (.int (F2 (Voff p1) (Vto p1 p2) (fun j => nar .byte (F1 j (Voff p1) (Vs p1) (Vn p2) (Vd p3) q4 q5))))] [])) _
        refine XS.iconst X62.here hx rfl (hb hby at_656) ?_
        show Steps p.tables e below (T62.setTop (mkF m 657 #[.val (.int p1), .val (.int p2), .val (.int p3), .val (.long q4), .second, .val (.long q5), .second, .val (.int (Voff p1)), .val (.int (Vs p1)), .val (.int (Vn p2)), .val (.int (Vd p3)), .val (.ref b2), .val (.int (Voff p1)), .val (.int (Vto p1 p2)), .val (.int (Vplain p1 p2 p3)), .val (.int (F2 (Voff p1) (Vto p1 p2) (fun j => nar .byte (F1 j (Voff p1) (Vs p1) (Vn p2) (Vd p3) q4 q5))))] [(.int (0 : Int32))])) _
        rw [if_neg hc642_63, if_neg hc649_68] at hr
        exact retN X62 hx (t := .boolean) Bd.returns (by simp) (hb hby at_657) hr
  · show Q0 Z p1 p2 p3 q4 q5 h0 n0 _ T62.heap _
    rw [e62]
    exact ⟨congrArg (fun z => some (Value.int z)) ((show F0 p1 p2 p3 q4 q5 = (if (18 : Int32) < (Vn p2) then (if (Vn p2) = (19 : Int32) then (if (F2 (Voff p1) (Vto p1 p2) (fun j => nar .byte (F1 j (Voff p1) (Vs p1) (Vn p2) (Vd p3) q4 q5))) = (0 : Int32) then (1 : Int32) else (if (Vplain p1 p2 p3) = (0 : Int32) then (0 : Int32) else (1 : Int32))) else (if (F2 (Voff p1) (Vto p1 p2) (fun j => nar .byte (F1 j (Voff p1) (Vs p1) (Vn p2) (Vd p3) q4 q5))) = (0 : Int32) then (1 : Int32) else (0 : Int32))) else (if (F2 (Voff p1) (Vto p1 p2) (fun j => nar .byte (F1 j (Voff p1) (Vs p1) (Vn p2) (Vd p3) q4 q5))) = (Vplain p1 p2 p3) then (1 : Int32) else (0 : Int32))) by rw [F0]).symm.trans (own_law p1 p2 p3 q4 q5)), N62⟩
set_option maxRecDepth 65536 in
set_option maxHeartbeats 40000000 in
theorem comes_1 {Post : Tables → Env → Array Value → State → Outcome → State → Prop} (hpost : ∀ tb e args s v u, (limb_1_1.after args s (.returned v) u = true ∧ limb_1_2.after args s (.returned v) u = true ∧ True) → FrameEnd s (.returned v) u (Jvm.fieldLocs frame_1_writes args s ++ Jvm.arrayLocs frame_1_arrays args s ++ Jvm.staticLocs frame_1_statics s) 16 128 → Post tb e args s (.returned v) u) :
    ArmFor flags0 classFile x code maxLocals ret World_1 tables_1 room_1 Calls_1 rest_1 Pre_1 Post := by
  intro l hfl _ _ p e ha hc hk s m args below hf hA hF happ hP
  obtain ⟨hcalls, hrest, hpre⟩ := hP
  obtain ⟨-, -, -, hnamed, -, -, -, hat⟩ := (Spec.applies_iff hf).mp happ
  obtain ⟨hg, hn⟩ := and_e (Cond.before_iff.mp (show (Jvm.Cond.and given_1 narrow_1).before args s = true from hpre))
  obtain ⟨hcnt, hg0⟩ := and_e hg
  obtain ⟨hi0, hg1⟩ := and_e hg0
  obtain ⟨hi1, hg2⟩ := and_e hg1
  obtain ⟨hi2, hg3⟩ := and_e hg2
  obtain ⟨hi3, hg4⟩ := and_e hg3
  have hi4 := hg4
  obtain ⟨w0, w1, w2, w3, w4, rfl⟩ : ∃ w0 w1 w2 w3 w4 : Value, args = #[w0, w1, w2, w3, w4] := by
    have hs : args.size = 5 := by simpa [Cond.value, given_1] using hcnt
    obtain ⟨L⟩ := args
    match L, hs with
    | [w0, w1, w2, w3, w4], _ => exact ⟨w0, w1, w2, w3, w4, rfl⟩
  have hw := fun d (hd : d ∈ tables_1) => atoms_spec (ws := Jvm.Cond.code x code maxLocals ret :: tables_1) hat d (List.mem_cons_of_mem _ hd)
  obtain ⟨i0, ei0⟩ := is_v hi0
  obtain rfl : w0 = (.int i0) := Option.some.inj ei0
  obtain ⟨i1, ei1⟩ := is_v hi1
  obtain rfl : w1 = (.int i1) := Option.some.inj ei1
  obtain ⟨i2, ei2⟩ := is_v hi2
  obtain rfl : w2 = (.int i2) := Option.some.inj ei2
  obtain ⟨i3, ei3⟩ := isL_v hi3
  obtain rfl : w3 = (.long i3) := Option.some.inj ei3
  obtain ⟨i4, ei4⟩ := isL_v hi4
  obtain rfl : w4 = (.long i4) := Option.some.inj ei4
  obtain ⟨n, o, h1, h2, h3, _, L, rfl, ⟨rfl, N⟩, hq⟩ := rm0 l s _ hw tables_1 i0 i1 i2 i3 i4  s.heap s.heap.size (Nat.le_refl _)  p e ha hc hk s m _ below hf ((Spec.applies_iff_loose hf).mp happ).1 ⟨rfl, State.Warmed39.refl s, rfl⟩ trivial
  refine ⟨n, _, h1, h2, h3, hpost _ _ _ _ _ _ ⟨Cond.after_iff.mpr rfl, Cond.after_iff.mpr (eq_i res_at (Term.int_eval (1)) rfl), trivial⟩ ⟨hq.1, hq.2.1, (hq.2.2.sift fun y hy => Or.inr (N y hy)).mono (by decide) (by decide)⟩⟩
theorem main_1_1 : Claimed_1_1 := comes_1 fun _ _ _ _ _ _ h hF => ⟨h.1, hF⟩
theorem main_1_2 : Claimed_1_2 := comes_1 fun _ _ _ _ _ _ h hF => ⟨h.2.1, hF⟩
end Jvm.Pilot.@@N@@
namespace Jvm.Pilot.@@N@@
open Jvm Jvm.ClassFile Sem Op Lib Jvm.Free Jvm.Stand Jvm.Pilot.@@N@@.Jvm.D
/-! MADE BY PROGRAM (witnessworld.py) out of the Statement's table words and the real class files: 9 classes; the members and pool entries that the words name. The judged class is class 1, her method 2. -/
namespace start1
open Jvm.ClassFile
def u (s : String) : CpInfo := .utf8 (stringToUtf16 s)
/-- a pool by its gaps: so many unusable entries, then the entry; so many at the end -/
def gap : Nat → List CpInfo → List CpInfo
  | 0, r => r
  | n + 1, r => .unusable :: gap n r
def poolList (es : List (Nat × CpInfo)) (last : Nat) : List CpInfo := es.foldr (fun e r => gap e.1 (e.2 :: r)) (gap last [])
def pool (es : List (Nat × CpInfo)) (last : Nat) : Array CpInfo := ⟨poolList es last⟩
def fileOf (pool : Array CpInfo) (this : Nat) (attrs : Array Attribute := #[]) (ms : Array MethodInfo := #[]) (fl : Nat := 33) (sup : Nat := 0) (ifs : Array Nat := #[]) (fds : Array FieldInfo := #[]) : ClassFile where
  minorVersion := 0
  majorVersion := 65
  constantPool := pool
  accessFlags := fl
  thisClass := this
  superClass := sup
  interfaces := ifs
  fields := fds
  methods := ms
  attributes := attrs
def plain (name : String) (sup : Option ClassId) : Class where
  name := name
  kind := .ordinary
  loader := none
  accessFlags := 33
  super := sup
  interfaces := #[]
  cf := none
  fields := #[]
  methods := #[]
  instanceTypes := #[]
  staticTypes := #[]
  resolved := #[]
  callSites := []
  init := .initialized
  statics := none
  mirror := none

def pool0 : Array CpInfo := pool [(5, u "<init>"), (0, u "()V"), (1, .class_ 10), (1, u "java/lang/Object")] 113

def k0m0 : Method := { name := "<init>", desc := "()V", sig := { parameters := [], returnType := none }, accessFlags := 1, code := none }
/-- java/lang/Object -/
def k0 : Class := { plain "java/lang/Object" none with
  accessFlags := 33
  interfaces := #[]
  cf := some (fileOf pool0 8 #[] #[{ accessFlags := 1, nameIndex := 5, descriptorIndex := 6, attributes := #[] }] 33 0 #[] #[])
  fields := #[]
  methods := #[k0m0]
  instanceTypes := #[]
  staticTypes := #[]
  resolved := Array.replicate 124 none
  statics := none }

def pool1 : Array CpInfo := pool [(2, .class_ 4), (1, u "java/lang/Object"), (0, u "<init>"), (0, u "()V"), (0, .long 65535), (1, .long 10), (1, .integer 2147483647), (0, .methodref 13 14), (0, .class_ 15), (0, .nameAndType 16 17), (0, u "com/example/levelwright/levelwright/BzwShapeIsPlainWholePinLaw"), (0, u "at"), (0, u "(IIIIIJJ)B"), (0, .methodref 19 20), (0, .class_ 21), (0, .nameAndType 22 23), (0, u "com/example/levelwright/levelwright/BzwShape"), (0, u "isPlainWhole"), (0, u "([BII)Z"), (3, u "law"), (0, u "(IIIJJ)Z")] 4

def k1m0 : Method := { name := "<init>", desc := "()V", sig := { parameters := [], returnType := none }, accessFlags := 1, code := none }
def k1c1 : Code := { maxStack := 5, maxLocals := 11, code := method_2_code, exceptionTable := #[], attributes := #[] }
def k1m1 : Method := { name := "at", desc := "(IIIIIJJ)B", sig := { parameters := [.int, .int, .int, .int, .int, .long, .long], returnType := some .byte }, accessFlags := 10, code := some k1c1 }
def k1c2 : Code := { maxStack := 12, maxLocals := 16, code := code, exceptionTable := #[], attributes := #[] }
def k1m2 : Method := { name := "law", desc := "(IIIJJ)Z", sig := { parameters := [.int, .int, .int, .long, .long], returnType := some .boolean }, accessFlags := 9, code := some k1c2 }
/-- com/example/levelwright/levelwright/BzwShapeIsPlainWholePinLaw -/
def k1 : Class := { plain "com/example/levelwright/levelwright/BzwShapeIsPlainWholePinLaw" (some 0) with
  accessFlags := 49
  interfaces := #[]
  cf := some (fileOf pool1 13 #[] #[{ accessFlags := 1, nameIndex := 5, descriptorIndex := 6, attributes := #[] }, { accessFlags := 10, nameIndex := 16, descriptorIndex := 17, attributes := #[] }, { accessFlags := 9, nameIndex := 27, descriptorIndex := 28, attributes := #[] }] 49 2 #[] #[])
  fields := #[]
  methods := #[k1m0, k1m1, k1m2]
  instanceTypes := #[]
  staticTypes := #[]
  resolved := Array.replicate 33 none
  statics := none }

def pool2 : Array CpInfo := pool [(6, .class_ 8), (1, u "java/lang/Object"), (2, .class_ 12), (0, u "com/example/levelwright/levelwright/BzwShape$Slot"), (21, u "[Lcom/example/levelwright/levelwright/BzwShape$Slot;"), (1, .class_ 38), (1, u "com/example/levelwright/levelwright/BzwShape"), (0, u "slots"), (1, .class_ 43), (1, u "com/example/levelwright/levelwright/BzwShape$Kind"), (32, u "([BII)Z"), (55, u "NONE"), (0, u "Lcom/example/levelwright/levelwright/BzwShape;"), (5, u "COLOUR_NUMBERS"), (5, u "COLOUR_NAMED"), (0, u "UNBOUNDED"), (0, u "I"), (2, u "FINITE_DIGITS"), (1, u "LONG_TENTH"), (0, u "J"), (0, u "LONG_LAST_DIGIT"), (1, u "LONG_DIGITS"), (1, u "NOT_A_NUMBER"), (1, u "FINITE"), (1, u "LARGE"), (1, u "WHOLE"), (12, u "isPlainWhole")] 8

def k2c0 : Code := { maxStack := 2, maxLocals := 4, code := prog_40_method_13_code, exceptionTable := #[], attributes := #[] }
def k2m0 : Method := { name := "isPlainWhole", desc := "([BII)Z", sig := { parameters := [(.array .byte), .int, .int], returnType := some .boolean }, accessFlags := 8, code := some k2c0 }
/-- com/example/levelwright/levelwright/BzwShape -/
def k2 : Class := { plain "com/example/levelwright/levelwright/BzwShape" (some 0) with
  accessFlags := 48
  interfaces := #[]
  cf := some (fileOf pool2 36 #[.nestMembers #[11, 41]] #[{ accessFlags := 8, nameIndex := 177, descriptorIndex := 76, attributes := #[] }] 48 6 #[] #[{ accessFlags := 24, nameIndex := 146, descriptorIndex := 147, attributes := #[] }, { accessFlags := 26, nameIndex := 150, descriptorIndex := 147, attributes := #[] }, { accessFlags := 26, nameIndex := 152, descriptorIndex := 153, attributes := #[] }, { accessFlags := 26, nameIndex := 154, descriptorIndex := 147, attributes := #[] }, { accessFlags := 26, nameIndex := 156, descriptorIndex := 147, attributes := #[] }, { accessFlags := 26, nameIndex := 158, descriptorIndex := 147, attributes := #[] }, { accessFlags := 26, nameIndex := 160, descriptorIndex := 147, attributes := #[] }, { accessFlags := 26, nameIndex := 162, descriptorIndex := 147, attributes := #[] }, { accessFlags := 26, nameIndex := 164, descriptorIndex := 147, attributes := #[] }, { accessFlags := 24, nameIndex := 132, descriptorIndex := 133, attributes := #[] }, { accessFlags := 24, nameIndex := 139, descriptorIndex := 133, attributes := #[] }, { accessFlags := 24, nameIndex := 145, descriptorIndex := 133, attributes := #[] }, { accessFlags := 18, nameIndex := 39, descriptorIndex := 34, attributes := #[] }])
  fields := #[{ name := "UNBOUNDED", type := .int, accessFlags := 24, slot := 0, constantValue := 0 }, { name := "FINITE_DIGITS", type := .int, accessFlags := 26, slot := 1, constantValue := 0 }, { name := "LONG_TENTH", type := .long, accessFlags := 26, slot := 2, constantValue := 0 }, { name := "LONG_LAST_DIGIT", type := .int, accessFlags := 26, slot := 3, constantValue := 0 }, { name := "LONG_DIGITS", type := .int, accessFlags := 26, slot := 4, constantValue := 0 }, { name := "NOT_A_NUMBER", type := .int, accessFlags := 26, slot := 5, constantValue := 0 }, { name := "FINITE", type := .int, accessFlags := 26, slot := 6, constantValue := 0 }, { name := "LARGE", type := .int, accessFlags := 26, slot := 7, constantValue := 0 }, { name := "WHOLE", type := .int, accessFlags := 26, slot := 8, constantValue := 0 }, { name := "NONE", type := (.object "com/example/levelwright/levelwright/BzwShape"), accessFlags := 24, slot := 9, constantValue := 0 }, { name := "COLOUR_NUMBERS", type := (.object "com/example/levelwright/levelwright/BzwShape"), accessFlags := 24, slot := 10, constantValue := 0 }, { name := "COLOUR_NAMED", type := (.object "com/example/levelwright/levelwright/BzwShape"), accessFlags := 24, slot := 11, constantValue := 0 }, { name := "slots", type := (.array (.object "com/example/levelwright/levelwright/BzwShape$Slot")), accessFlags := 18, slot := 0, constantValue := 0 }]
  methods := #[k2m0]
  instanceTypes := #[(.array (.object "com/example/levelwright/levelwright/BzwShape$Slot"))]
  staticTypes := #[.int, .int, .long, .int, .int, .int, .int, .int, .int, (.object "com/example/levelwright/levelwright/BzwShape"), (.object "com/example/levelwright/levelwright/BzwShape"), (.object "com/example/levelwright/levelwright/BzwShape")]
  resolved := Array.replicate 186 none
  statics := none }

def pool3 : Array CpInfo := pool [(1, u "java/lang/Cloneable"), (0, .class_ 1), (0, u "java/lang/Object"), (0, .class_ 3)] 3

/-- java/lang/Cloneable -/
def k3 : Class := { plain "java/lang/Cloneable" (some 0) with
  accessFlags := 1537
  interfaces := #[]
  cf := some (fileOf pool3 2 #[] #[] 1537 4 #[] #[])
  fields := #[]
  methods := #[]
  instanceTypes := #[]
  staticTypes := #[]
  resolved := Array.replicate 8 none
  statics := none }

def pool4 : Array CpInfo := pool [(1, u "java/io/Serializable"), (0, .class_ 1), (0, u "java/lang/Object"), (0, .class_ 3)] 3

/-- java/io/Serializable -/
def k4 : Class := { plain "java/io/Serializable" (some 0) with
  accessFlags := 1537
  interfaces := #[]
  cf := some (fileOf pool4 2 #[] #[] 1537 4 #[] #[])
  fields := #[]
  methods := #[]
  instanceTypes := #[]
  staticTypes := #[]
  resolved := Array.replicate 8 none
  statics := none }

/-- the primitive byte -/
def k5 : Class := { plain "byte" none with kind := .primitive 'B', accessFlags := 0x411 }
/-- [B -/
def k6 : Class := { plain "[B" (some 0) with kind := .array 5 .byte, interfaces := #[3, 4], accessFlags := 1041 }

/-- the primitive int -/
def k7 : Class := { plain "int" none with kind := .primitive 'I', accessFlags := 0x411 }
/-- [I -/
def k8 : Class := { plain "[I" (some 0) with kind := .array 7 .int, interfaces := #[3, 4], accessFlags := 1041 }

def heap : Heap := #[]
def classes : Array Class := #[k0, k1, k2, k3, k4, k5, k6, k7, k8]
def interned : List (Array UInt16 × Addr) := []
def slotsUsed : Nat := 0
def theMethod : MethodId := ⟨1, 2⟩
def args0 : Array Value := #[.int 5, .int 6, .int 7, .long 8, .long 9]
def aboutOver (below : List Frame) : State where
  vm := { classes := classes, interned := interned.toArray }
  heap := heap
  slotsUsed := slotsUsed
  threads := #[{ frames := .invoking theMethod args0 :: below }]
def below0 : List Frame := [.native { method := ⟨0, 0⟩, args := #[] }]
def about1 : State := aboutOver below0
def p0 : Program := .bare "" "" ""
def e0 : Env := launch0.env 0 0 0
theorem w_frames : about1.frames = Frame.invoking theMethod args0 :: below0 := rfl
set_option maxRecDepth 65536 in
theorem w_args : argsFit about1.vm theMethod args0 = true := by decide +kernel
set_option maxRecDepth 65536 in
theorem w_heap : heapFits about1 = true := by decide +kernel
set_option maxRecDepth 65536 in
theorem w_runnable : about1.curStatus? = some .runnable := by decide +kernel
set_option maxRecDepth 65536 in
theorem w_alone : about1.alone = true := by decide +kernel
set_option maxRecDepth 65536 in
theorem w_named : about1.methodNamed? x = some theMethod := by decide +kernel
set_option maxRecDepth 65536 in
theorem w_hears : about1.hears theMethod below0 = true := by decide +kernel
set_option maxRecDepth 65536 in
theorem w_ripe : about1.ripe theMethod args0 below0 = true := by decide +kernel
theorem w_running : about1.status = .running := rfl
set_option maxRecDepth 65536 in
theorem w_room : about1.hasRoom e0.platform room_1 = true :=
  launch0.hasRoom_least _ room_1 (by decide +kernel) (by decide +kernel) (by decide +kernel) (by decide +kernel) (by decide +kernel) (by decide +kernel)
theorem allAtoms_all (ts : List Jvm.Cond) (a : Array Jvm.Value) (st : Jvm.State) : (allAtoms ts).before a st = ts.all (fun c => c.before a st) := by
  induction ts with
  | nil => rfl
  | cons c t ih =>
    show (Jvm.Cond.and c (allAtoms t)).before a st = _
    rw [Jvm.Cond.before_and, ih, List.all_cons]
def words1 : List Jvm.Cond := Jvm.Cond.code x code maxLocals ret :: tables_1
/-- a 'code' word, met by the world's own term for the bytes: nothing is compared byte by byte -/
theorem code_word {y : MethodName} {bytes : ByteArray} {mx : Nat} {rt : Option FieldType} {a : Array Value} {s : State} {m : MethodId} {meth : Method} {c : Code} (h1 : s.methodNamed? y = some m) (h2 : s.vm.method? m = some meth) (h3 : meth.code = some c) (h4 : c.code = bytes)
    (h5 : (c.maxLocals == mx && c.exceptionTable.isEmpty && decide (c.maxStack ≤ mostOperands) && decide (meth.sig.returnType = rt) && !meth.locks && decide (parseMethodDescriptor y.desc = some meth.sig)) = true) : (Jvm.Cond.code y bytes mx rt).before a s = true := by
  simp only [Bool.and_eq_true, beq_iff_eq, Bool.not_eq_true', decide_eq_true_eq] at h5
  obtain ⟨⟨⟨⟨⟨g1, g2⟩, g3⟩, g4⟩, g5⟩, g6⟩ := h5
  simp [Cond.before, Cond.holds, Cond.value, h1, h2, h3, h4, g1, g2, g3, g4, g5, g6]
def isCode : Jvm.Cond → Bool
  | .code _ _ _ _ => true
  | _ => false
theorem all_split {L : List Jvm.Cond} {P : Jvm.Cond → Bool} (h1 : L.all (fun c => isCode c || P c) = true) (h2 : ∀ c ∈ L.filter isCode, P c = true) : L.all P = true := by
  refine List.all_eq_true.mpr fun c hc => ?_
  have h := List.all_eq_true.mp h1 c hc
  rcases Bool.eq_false_or_eq_true (isCode c) with hi | hi
  · exact h2 c (List.mem_filter.mpr ⟨hc, hi⟩)
  · simpa [hi] using h
set_option maxRecDepth 65536 in
theorem w_c0 : (Jvm.Cond.code x code maxLocals ret).before args0 about1 = true := code_word (m := ⟨1, 2⟩) (meth := k1m2) (c := k1c2) (by decide +kernel) rfl rfl rfl (by decide +kernel)
set_option maxRecDepth 65536 in
theorem w_c1 : (Jvm.Cond.code ({ cls := "com/example/levelwright/levelwright/BzwShapeIsPlainWholePinLaw", name := "at", desc := "(IIIIIJJ)B" } : Jvm.MethodName) method_2_code (11 : Nat) (Option.some Jvm.ClassFile.FieldType.byte)).before args0 about1 = true := code_word (m := ⟨1, 1⟩) (meth := k1m1) (c := k1c1) (by decide +kernel) rfl rfl rfl (by decide +kernel)
set_option maxRecDepth 65536 in
theorem w_c2 : (Jvm.Cond.code ({ cls := "com/example/levelwright/levelwright/BzwShape", name := "isPlainWhole", desc := "([BII)Z" } : Jvm.MethodName) prog_40_method_13_code (4 : Nat) (Option.some Jvm.ClassFile.FieldType.boolean)).before args0 about1 = true := code_word (m := ⟨2, 0⟩) (meth := k2m0) (c := k2c0) (by decide +kernel) rfl rfl rfl (by decide +kernel)
def codes1 : List Jvm.Cond := [Jvm.Cond.code x code maxLocals ret, Jvm.Cond.code ({ cls := "com/example/levelwright/levelwright/BzwShapeIsPlainWholePinLaw", name := "at", desc := "(IIIIIJJ)B" } : Jvm.MethodName) method_2_code (11 : Nat) (Option.some Jvm.ClassFile.FieldType.byte), Jvm.Cond.code ({ cls := "com/example/levelwright/levelwright/BzwShape", name := "isPlainWhole", desc := "([BII)Z" } : Jvm.MethodName) prog_40_method_13_code (4 : Nat) (Option.some Jvm.ClassFile.FieldType.boolean)]
set_option maxRecDepth 65536 in
theorem codes_eq : words1.filter isCode = codes1 := rfl
theorem w_codes : ∀ c ∈ words1.filter isCode, c.before args0 about1 = true := by
  rw [codes_eq]
  intro c hc
  simp only [codes1, List.mem_cons, List.not_mem_nil, or_false] at hc
  rcases hc with rfl | rfl | rfl
  · exact w_c0
  · exact w_c1
  · exact w_c2
set_option maxRecDepth 65536 in
theorem w_t1 : words1.all (fun c => isCode c || c.before args0 about1) = true := by decide +kernel
theorem w_tables : (allAtoms (Jvm.Cond.code x code maxLocals ret :: tables_1)).before args0 about1 = true := by
  rw [allAtoms_all]
  show words1.all (fun c => c.before args0 about1) = true
  refine all_split ?_ w_codes
  rw [w_t1]
set_option maxRecDepth 65536 in
theorem w_case : (Jvm.Cond.and given_1 narrow_1).before args0 about1 = true := by decide +kernel
theorem w_applies : (headSpec (Jvm.Cond.code x code maxLocals ret :: tables_1) room_1).applies x e0.platform about1 = true :=
  (Spec.applies_iff w_frames).mpr ⟨w_running, w_runnable, w_alone, w_named, w_hears, w_ripe, w_room, w_tables⟩
theorem atStart : AtStart classFile x code maxLocals ret World_1 tables_1 room_1 Calls_1 rest_1 Pre_1 launch0 p0 e0 about1 theMethod args0 below0 :=
  ⟨lists_1, trivial, launch0.admits_env _ _ _, launch0.least_env, fairChoices_fair.cas, fairChoices_fair.clock, w_frames, w_args, w_heap, w_applies, trivial, trivial, w_case⟩
end start1
theorem witness_1 : WitnessClaimed_1 := ⟨start1.p0, start1.e0, start1.about1, start1.theMethod, start1.args0, start1.below0, start1.atStart⟩
end Jvm.Pilot.@@N@@
