import JvmDerived
import JvmDerived.Pilot.@@N@@Statement
import JvmDerived.Pilot.@@N@@Code
set_option linter.unusedVariables false
set_option linter.unusedSimpArgs false
@@BLOCK:NumsL.lean.txt@@
namespace Jvm.RoadKit
open Sem ClassFile Op Lib Jvm.Stand Jvm.Free Jvm.LawKit
section New
variable {p : Program} {l : Launch} {e : Env} {R : Room} {s : State} {m : MethodId} {args : Array Value} {below : List Frame} {meth : Method} {c : Code} {T : State} {locs : List Loc} {cells slots : Nat}
theorem retI (X : Stand p l e R s m args below meth c T locs cells slots) (hx : p.tables.exec = Jvm.exec) {pc : Nat} {Ls : Array Slot} {z : Int32} {rest : List Value} (hret : meth.sig.returnType = some .int) (hd : decode c.code pc = .ok (.ireturn, 1)) {fs : List Frame}
    (hl : ∀ (f : JFrame) (acts : List Action), f.method = m → f.locked = none → f.entered = [] → (doReturn e (T.setTop f) acts (some (.int z))).1 = T.setFrames fs) : Steps p.tables e below (T.setTop (mkF m pc Ls (.int z :: rest))) (T.setFrames fs) := by
  have hm' : T.vm.method? m = some meth := X.method'
  have hn : narrow .int (.int z) = .int z := rfl
  show Steps p.tables e below (T.setTop { method := m, pc := pc, locals := Ls, stack := _ :: rest, locked := none }) _
  jvm_step X.here [X.here.top, hx, hd, hm', hret, hn]
  first | (intro acts; rw [hl _ acts rfl rfl rfl]) | rw [hl _ _ rfl rfl rfl]
  exact Steps.refl _
end New
end Jvm.RoadKit
namespace Jvm.Pilot.@@N@@
open Jvm Jvm.ClassFile Sem Op Lib Jvm.Free Jvm.Stand Jvm.LawKit Jvm.RoadKit Bundle Jvm.Pilot.@@N@@.Jvm.D

theorem d2_0 : decode jdk_35_method_45_code 0 = .ok (.lload_n 2, 1) := by decide +kernel
theorem d2_1 : decode jdk_35_method_45_code 1 = .ok (.lconst 0, 1) := by decide +kernel
theorem d2_2 : decode jdk_35_method_45_code 2 = .ok (.lcmp, 1) := by decide +kernel
theorem d2_3 : decode jdk_35_method_45_code 3 = .ok (.ifCond .lt 37, 3) := by decide +kernel
theorem d2_6 : decode jdk_35_method_45_code 6 = .ok (.lload_n 0, 1) := by decide +kernel
theorem d2_7 : decode jdk_35_method_45_code 7 = .ok (.iconst 1, 1) := by decide +kernel
theorem d2_8 : decode jdk_35_method_45_code 8 = .ok (.lushr, 1) := by decide +kernel
theorem d2_9 : decode jdk_35_method_45_code 9 = .ok (.lload_n 2, 1) := by decide +kernel
theorem d2_10 : decode jdk_35_method_45_code 10 = .ok (.ldiv, 1) := by decide +kernel
theorem d2_11 : decode jdk_35_method_45_code 11 = .ok (.iconst 1, 1) := by decide +kernel
theorem d2_12 : decode jdk_35_method_45_code 12 = .ok (.lshl, 1) := by decide +kernel
theorem d2_13 : decode jdk_35_method_45_code 13 = .ok (.lstore 4, 2) := by decide +kernel
theorem d2_15 : decode jdk_35_method_45_code 15 = .ok (.lload_n 0, 1) := by decide +kernel
theorem d2_16 : decode jdk_35_method_45_code 16 = .ok (.lload 4, 2) := by decide +kernel
theorem d2_18 : decode jdk_35_method_45_code 18 = .ok (.lload_n 2, 1) := by decide +kernel
theorem d2_19 : decode jdk_35_method_45_code 19 = .ok (.lmul, 1) := by decide +kernel
theorem d2_20 : decode jdk_35_method_45_code 20 = .ok (.lsub, 1) := by decide +kernel
theorem d2_21 : decode jdk_35_method_45_code 21 = .ok (.lstore 6, 2) := by decide +kernel
theorem d2_23 : decode jdk_35_method_45_code 23 = .ok (.lload 6, 2) := by decide +kernel
theorem d2_25 : decode jdk_35_method_45_code 25 = .ok (.lload 6, 2) := by decide +kernel
theorem d2_27 : decode jdk_35_method_45_code 27 = .ok (.lload_n 2, 1) := by decide +kernel
theorem d2_28 : decode jdk_35_method_45_code 28 = .ok (.lsub, 1) := by decide +kernel
theorem d2_29 : decode jdk_35_method_45_code 29 = .ok (.ldc2_w 306, 3) := by decide +kernel
theorem d2_32 : decode jdk_35_method_45_code 32 = .ok (.lxor, 1) := by decide +kernel
theorem d2_33 : decode jdk_35_method_45_code 33 = .ok (.bipush 63, 2) := by decide +kernel
theorem d2_35 : decode jdk_35_method_45_code 35 = .ok (.lshr, 1) := by decide +kernel
theorem d2_36 : decode jdk_35_method_45_code 36 = .ok (.lload_n 2, 1) := by decide +kernel
theorem d2_37 : decode jdk_35_method_45_code 37 = .ok (.land, 1) := by decide +kernel
theorem d2_38 : decode jdk_35_method_45_code 38 = .ok (.lsub, 1) := by decide +kernel
theorem d2_39 : decode jdk_35_method_45_code 39 = .ok (.lreturn, 1) := by decide +kernel
theorem d2_40 : decode jdk_35_method_45_code 40 = .ok (.lload_n 0, 1) := by decide +kernel
theorem d2_41 : decode jdk_35_method_45_code 41 = .ok (.lload_n 0, 1) := by decide +kernel
theorem d2_42 : decode jdk_35_method_45_code 42 = .ok (.lload_n 0, 1) := by decide +kernel
theorem d2_43 : decode jdk_35_method_45_code 43 = .ok (.lload_n 2, 1) := by decide +kernel
theorem d2_44 : decode jdk_35_method_45_code 44 = .ok (.lsub, 1) := by decide +kernel
theorem d2_45 : decode jdk_35_method_45_code 45 = .ok (.ldc2_w 306, 3) := by decide +kernel
theorem d2_48 : decode jdk_35_method_45_code 48 = .ok (.lxor, 1) := by decide +kernel
theorem d2_49 : decode jdk_35_method_45_code 49 = .ok (.land, 1) := by decide +kernel
theorem d2_50 : decode jdk_35_method_45_code 50 = .ok (.bipush 63, 2) := by decide +kernel
theorem d2_52 : decode jdk_35_method_45_code 52 = .ok (.lshr, 1) := by decide +kernel
theorem d2_53 : decode jdk_35_method_45_code 53 = .ok (.lload_n 2, 1) := by decide +kernel
theorem d2_54 : decode jdk_35_method_45_code 54 = .ok (.land, 1) := by decide +kernel
theorem d2_55 : decode jdk_35_method_45_code 55 = .ok (.lsub, 1) := by decide +kernel
theorem d2_56 : decode jdk_35_method_45_code 56 = .ok (.lreturn, 1) := by decide +kernel
theorem pn_2 : plainName "java/lang/Long" = true := by first | (simp [plainName, overriddenIn]; done) | decide +kernel
theorem pd_2 : parseMethodDescriptor "(JJ)J" = some ⟨[.long, .long], some .long⟩ := by decide +kernel
theorem ef_2 (m : MethodId) (x0 : Int64) (x1 : Int64) : entryFrame m #[(.long x0), (.long x1)] 8 = mkF m 0 #[.val (.long x0), .second, .val (.long x1), .second, .unset, .unset, .unset, .unset] [] := by first | (simp [entryFrame, mkF, argsToLocals, Value.category]; done) | rfl
def own_rem (p1 p2 : Int64) : Int64 := ((p1 - (((((p1.toUInt64 >>> ((1 : Int32) &&& 0x3f).toInt64.toUInt64).toInt64) / p2) <<< ((1 : Int32) &&& 0x3f).toInt64) * p2)) - (((((p1 - (((((p1.toUInt64 >>> ((1 : Int32) &&& 0x3f).toInt64.toUInt64).toInt64) / p2) <<< ((1 : Int32) &&& 0x3f).toInt64) * p2)) - p2) ^^^ (-1 : Int64)) >>> ((63 : Int32) &&& 0x3f).toInt64) &&& p2))
def Q2 (Z : State) (p1 : Int64) (p2 : Int64) (h0 : Heap) (n0 : Nat) (v : Option Value) (h : Heap) (L : List Loc) : Prop := v = some (.long (own_rem p1 p2)) ∧ Fr n0 L ∧ h = h0
set_option maxRecDepth 65536 in
set_option maxHeartbeats 40000000 in
theorem rm2 (l : Launch) (Z : State) (a0 : Array Value) (hw : ∀ d ∈ tables_1, d.before a0 Z = true) (ws : List Jvm.Cond) (p1 : Int64) (p2 : Int64) (h0 : Heap) (n0 : Nat) (Z0 : n0 ≤ h0.size) (hpos : ¬ p2 < 0) (hnz : ¬ p2 = 0) :
    MetFree l (⟨"java/lang/Long", "remainderUnsigned", "(JJ)J"⟩ : MethodName) (head1 (Jvm.Cond.code (⟨"java/lang/Long", "remainderUnsigned", "(JJ)J"⟩ : MethodName) jdk_35_method_45_code 8 (some .long) :: ws) ({ frames := 0, cells := 0, slots := 0, locals := 0 } : Room)) (fun a U => a = #[(.long p1), (.long p2)] ∧ Z.Warmed39 U.vm ∧ U.heap = h0) (fun _ _ _ _ _ => True) (fun _ U o U' => ∃ v L, o = .returned v ∧ Q2 Z p1 p2 h0 n0 v U'.heap L ∧ FrameEnd U o U' L ({ frames := 0, cells := 0, slots := 0, locals := 0 } : Room).cells ({ frames := 0, cells := 0, slots := 0, locals := 0 } : Room).slots) := by
  refine MetFree.of_bodySF (plainFor_of_name pn_2) hisR ?_
  intro p e s m args below meth c s₁ Bd hml0 hP hK
  obtain ⟨rfl, hZ, hh⟩ := hP
  have hx := Bd.exec
  have hby := Bd.bytes
  have hml : c.maxLocals = 8 := hml0
  have hown : s.vm.findClass "java/lang/Long" = some m.cls := findClass_of_methodNamed Bd.named
  have hnm := (name_of_methodNamed Bd.named Bd.method).1
  have X0 : Stand p l e ({ frames := 0, cells := 0, slots := 0, locals := 0 } : Room) s m #[(.long p1), (.long p2)] below meth c s₁ [] 0 0 := Stand.of_body Bd
  have e0 : s₁.heap = h0 := by rw [← hh, Bd.state]; rfl
  have N0 := Fr.nil n0
  have pre0 : ∀ t, Steps p.tables e below (s₁.setTop (mkF m 0 #[.val (.long p1), .second, .val (.long p2), .second, .unset, .unset, .unset, .unset] [])) t → Steps p.tables e below (s₁.setTop (entryFrame m #[(.long p1), (.long p2)] 8)) t := fun t k => castTop (ef_2 m p1 p2) k
  obtain ⟨fs, hr, hrun, hended, hW, hsame⟩ := X0.leave (v := some (.long (own_rem p1 p2))) (fun h => by rw [Bd.returns] at h; cases h)
  refine ⟨_, _, pre0 _ ?_, hrun, hended, _, _, rfl, ?_, ⟨_, rfl⟩, hW, hsame.mono (by decide) (by decide)⟩
  ·
    show Steps p.tables e below (s₁.setTop (mkF m 0 #[.val (.long p1), .second, .val (.long p2), .second, .unset, .unset, .unset, .unset] [])) _
    refine XS.lloadN X0.here hx rfl (hb hby d2_0) rfl ?_
    show Steps p.tables e below (s₁.setTop (mkF m 1 #[.val (.long p1), .second, .val (.long p2), .second, .unset, .unset, .unset, .unset] [(.long p2)])) _
    refine XS.lconst X0.here hx rfl (hb hby d2_1) ?_
    show Steps p.tables e below (s₁.setTop (mkF m 2 #[.val (.long p1), .second, .val (.long p2), .second, .unset, .unset, .unset, .unset] [(.long (0 : Int64)), (.long p2)])) _
    refine XS.lcmp X0.here hx rfl (hb hby d2_2) rfl ?_
    show Steps p.tables e below (s₁.setTop (mkF m 3 #[.val (.long p1), .second, .val (.long p2), .second, .unset, .unset, .unset, .unset] [(.int (lcmpW p2 (0 : Int64)))])) _
    refine XS.ifNo X0.here hx rfl (hb hby d2_3) rfl ((if0 _ _).trans (flt (fun z => hpos ((lw_lt _ _).mp z))).1) ?_
    show Steps p.tables e below (s₁.setTop (mkF m 6 #[.val (.long p1), .second, .val (.long p2), .second, .unset, .unset, .unset, .unset] [])) _
    refine XS.lloadN X0.here hx rfl (hb hby d2_6) rfl ?_
    show Steps p.tables e below (s₁.setTop (mkF m 7 #[.val (.long p1), .second, .val (.long p2), .second, .unset, .unset, .unset, .unset] [(.long p1)])) _
    refine XS.iconst X0.here hx rfl (hb hby d2_7) ?_
    show Steps p.tables e below (s₁.setTop (mkF m 8 #[.val (.long p1), .second, .val (.long p2), .second, .unset, .unset, .unset, .unset] [(.int (1 : Int32)), (.long p1)])) _
    refine XS.lushr X0.here hx rfl (hb hby d2_8) rfl ?_
    show Steps p.tables e below (s₁.setTop (mkF m 9 #[.val (.long p1), .second, .val (.long p2), .second, .unset, .unset, .unset, .unset] [(.long ((p1.toUInt64 >>> ((1 : Int32) &&& 0x3f).toInt64.toUInt64).toInt64))])) _
    refine XS.lloadN X0.here hx rfl (hb hby d2_9) rfl ?_
    show Steps p.tables e below (s₁.setTop (mkF m 10 #[.val (.long p1), .second, .val (.long p2), .second, .unset, .unset, .unset, .unset] [(.long p2), (.long ((p1.toUInt64 >>> ((1 : Int32) &&& 0x3f).toInt64.toUInt64).toInt64))])) _
    refine XS.ldiv X0.here hx rfl (hb hby d2_10) rfl hnz ?_
    show Steps p.tables e below (s₁.setTop (mkF m 11 #[.val (.long p1), .second, .val (.long p2), .second, .unset, .unset, .unset, .unset] [(.long (((p1.toUInt64 >>> ((1 : Int32) &&& 0x3f).toInt64.toUInt64).toInt64) / p2))])) _
    refine XS.iconst X0.here hx rfl (hb hby d2_11) ?_
    show Steps p.tables e below (s₁.setTop (mkF m 12 #[.val (.long p1), .second, .val (.long p2), .second, .unset, .unset, .unset, .unset] [(.int (1 : Int32)), (.long (((p1.toUInt64 >>> ((1 : Int32) &&& 0x3f).toInt64.toUInt64).toInt64) / p2))])) _
    refine XS.lshl X0.here hx rfl (hb hby d2_12) rfl ?_
    show Steps p.tables e below (s₁.setTop (mkF m 13 #[.val (.long p1), .second, .val (.long p2), .second, .unset, .unset, .unset, .unset] [(.long ((((p1.toUInt64 >>> ((1 : Int32) &&& 0x3f).toInt64.toUInt64).toInt64) / p2) <<< ((1 : Int32) &&& 0x3f).toInt64))])) _
    refine XS.lstore X0.here hx rfl (hb hby d2_13) rfl (l' := #[.val (.long p1), .second, .val (.long p2), .second, .val (.long ((((p1.toUInt64 >>> ((1 : Int32) &&& 0x3f).toInt64.toUInt64).toInt64) / p2) <<< ((1 : Int32) &&& 0x3f).toInt64)), .second, .unset, .unset]) rfl ?_
    show Steps p.tables e below (s₁.setTop (mkF m 15 #[.val (.long p1), .second, .val (.long p2), .second, .val (.long ((((p1.toUInt64 >>> ((1 : Int32) &&& 0x3f).toInt64.toUInt64).toInt64) / p2) <<< ((1 : Int32) &&& 0x3f).toInt64)), .second, .unset, .unset] [])) _
    refine XS.lloadN X0.here hx rfl (hb hby d2_15) rfl ?_
    show Steps p.tables e below (s₁.setTop (mkF m 16 #[.val (.long p1), .second, .val (.long p2), .second, .val (.long ((((p1.toUInt64 >>> ((1 : Int32) &&& 0x3f).toInt64.toUInt64).toInt64) / p2) <<< ((1 : Int32) &&& 0x3f).toInt64)), .second, .unset, .unset] [(.long p1)])) _
    refine XS.lload X0.here hx rfl (hb hby d2_16) rfl ?_
    show Steps p.tables e below (s₁.setTop (mkF m 18 #[.val (.long p1), .second, .val (.long p2), .second, .val (.long ((((p1.toUInt64 >>> ((1 : Int32) &&& 0x3f).toInt64.toUInt64).toInt64) / p2) <<< ((1 : Int32) &&& 0x3f).toInt64)), .second, .unset, .unset] [(.long ((((p1.toUInt64 >>> ((1 : Int32) &&& 0x3f).toInt64.toUInt64).toInt64) / p2) <<< ((1 : Int32) &&& 0x3f).toInt64)), (.long p1)])) _
    refine XS.lloadN X0.here hx rfl (hb hby d2_18) rfl ?_
    show Steps p.tables e below (s₁.setTop (mkF m 19 #[.val (.long p1), .second, .val (.long p2), .second, .val (.long ((((p1.toUInt64 >>> ((1 : Int32) &&& 0x3f).toInt64.toUInt64).toInt64) / p2) <<< ((1 : Int32) &&& 0x3f).toInt64)), .second, .unset, .unset] [(.long p2), (.long ((((p1.toUInt64 >>> ((1 : Int32) &&& 0x3f).toInt64.toUInt64).toInt64) / p2) <<< ((1 : Int32) &&& 0x3f).toInt64)), (.long p1)])) _
    refine XS.lmul X0.here hx rfl (hb hby d2_19) rfl ?_
    show Steps p.tables e below (s₁.setTop (mkF m 20 #[.val (.long p1), .second, .val (.long p2), .second, .val (.long ((((p1.toUInt64 >>> ((1 : Int32) &&& 0x3f).toInt64.toUInt64).toInt64) / p2) <<< ((1 : Int32) &&& 0x3f).toInt64)), .second, .unset, .unset] [(.long (((((p1.toUInt64 >>> ((1 : Int32) &&& 0x3f).toInt64.toUInt64).toInt64) / p2) <<< ((1 : Int32) &&& 0x3f).toInt64) * p2)), (.long p1)])) _
    refine XS.lsub X0.here hx rfl (hb hby d2_20) rfl ?_
    show Steps p.tables e below (s₁.setTop (mkF m 21 #[.val (.long p1), .second, .val (.long p2), .second, .val (.long ((((p1.toUInt64 >>> ((1 : Int32) &&& 0x3f).toInt64.toUInt64).toInt64) / p2) <<< ((1 : Int32) &&& 0x3f).toInt64)), .second, .unset, .unset] [(.long (p1 - (((((p1.toUInt64 >>> ((1 : Int32) &&& 0x3f).toInt64.toUInt64).toInt64) / p2) <<< ((1 : Int32) &&& 0x3f).toInt64) * p2)))])) _
    refine XS.lstore X0.here hx rfl (hb hby d2_21) rfl (l' := #[.val (.long p1), .second, .val (.long p2), .second, .val (.long ((((p1.toUInt64 >>> ((1 : Int32) &&& 0x3f).toInt64.toUInt64).toInt64) / p2) <<< ((1 : Int32) &&& 0x3f).toInt64)), .second, .val (.long (p1 - (((((p1.toUInt64 >>> ((1 : Int32) &&& 0x3f).toInt64.toUInt64).toInt64) / p2) <<< ((1 : Int32) &&& 0x3f).toInt64) * p2))), .second]) rfl ?_
    show Steps p.tables e below (s₁.setTop (mkF m 23 #[.val (.long p1), .second, .val (.long p2), .second, .val (.long ((((p1.toUInt64 >>> ((1 : Int32) &&& 0x3f).toInt64.toUInt64).toInt64) / p2) <<< ((1 : Int32) &&& 0x3f).toInt64)), .second, .val (.long (p1 - (((((p1.toUInt64 >>> ((1 : Int32) &&& 0x3f).toInt64.toUInt64).toInt64) / p2) <<< ((1 : Int32) &&& 0x3f).toInt64) * p2))), .second] [])) _
    refine XS.lload X0.here hx rfl (hb hby d2_23) rfl ?_
    show Steps p.tables e below (s₁.setTop (mkF m 25 #[.val (.long p1), .second, .val (.long p2), .second, .val (.long ((((p1.toUInt64 >>> ((1 : Int32) &&& 0x3f).toInt64.toUInt64).toInt64) / p2) <<< ((1 : Int32) &&& 0x3f).toInt64)), .second, .val (.long (p1 - (((((p1.toUInt64 >>> ((1 : Int32) &&& 0x3f).toInt64.toUInt64).toInt64) / p2) <<< ((1 : Int32) &&& 0x3f).toInt64) * p2))), .second] [(.long (p1 - (((((p1.toUInt64 >>> ((1 : Int32) &&& 0x3f).toInt64.toUInt64).toInt64) / p2) <<< ((1 : Int32) &&& 0x3f).toInt64) * p2)))])) _
    refine XS.lload X0.here hx rfl (hb hby d2_25) rfl ?_
    show Steps p.tables e below (s₁.setTop (mkF m 27 #[.val (.long p1), .second, .val (.long p2), .second, .val (.long ((((p1.toUInt64 >>> ((1 : Int32) &&& 0x3f).toInt64.toUInt64).toInt64) / p2) <<< ((1 : Int32) &&& 0x3f).toInt64)), .second, .val (.long (p1 - (((((p1.toUInt64 >>> ((1 : Int32) &&& 0x3f).toInt64.toUInt64).toInt64) / p2) <<< ((1 : Int32) &&& 0x3f).toInt64) * p2))), .second] [(.long (p1 - (((((p1.toUInt64 >>> ((1 : Int32) &&& 0x3f).toInt64.toUInt64).toInt64) / p2) <<< ((1 : Int32) &&& 0x3f).toInt64) * p2))), (.long (p1 - (((((p1.toUInt64 >>> ((1 : Int32) &&& 0x3f).toInt64.toUInt64).toInt64) / p2) <<< ((1 : Int32) &&& 0x3f).toInt64) * p2)))])) _
    refine XS.lloadN X0.here hx rfl (hb hby d2_27) rfl ?_
    show Steps p.tables e below (s₁.setTop (mkF m 28 #[.val (.long p1), .second, .val (.long p2), .second, .val (.long ((((p1.toUInt64 >>> ((1 : Int32) &&& 0x3f).toInt64.toUInt64).toInt64) / p2) <<< ((1 : Int32) &&& 0x3f).toInt64)), .second, .val (.long (p1 - (((((p1.toUInt64 >>> ((1 : Int32) &&& 0x3f).toInt64.toUInt64).toInt64) / p2) <<< ((1 : Int32) &&& 0x3f).toInt64) * p2))), .second] [(.long p2), (.long (p1 - (((((p1.toUInt64 >>> ((1 : Int32) &&& 0x3f).toInt64.toUInt64).toInt64) / p2) <<< ((1 : Int32) &&& 0x3f).toInt64) * p2))), (.long (p1 - (((((p1.toUInt64 >>> ((1 : Int32) &&& 0x3f).toInt64.toUInt64).toInt64) / p2) <<< ((1 : Int32) &&& 0x3f).toInt64) * p2)))])) _
    refine XS.lsub X0.here hx rfl (hb hby d2_28) rfl ?_
    show Steps p.tables e below (s₁.setTop (mkF m 29 #[.val (.long p1), .second, .val (.long p2), .second, .val (.long ((((p1.toUInt64 >>> ((1 : Int32) &&& 0x3f).toInt64.toUInt64).toInt64) / p2) <<< ((1 : Int32) &&& 0x3f).toInt64)), .second, .val (.long (p1 - (((((p1.toUInt64 >>> ((1 : Int32) &&& 0x3f).toInt64.toUInt64).toInt64) / p2) <<< ((1 : Int32) &&& 0x3f).toInt64) * p2))), .second] [(.long ((p1 - (((((p1.toUInt64 >>> ((1 : Int32) &&& 0x3f).toInt64.toUInt64).toInt64) / p2) <<< ((1 : Int32) &&& 0x3f).toInt64) * p2)) - p2)), (.long (p1 - (((((p1.toUInt64 >>> ((1 : Int32) &&& 0x3f).toInt64.toUInt64).toInt64) / p2) <<< ((1 : Int32) &&& 0x3f).toInt64) * p2)))])) _
    refine X0.ldc2Long hx hown (mvT hZ (hw _ (List.mem_of_getElem? (i := 12) rfl))) (g := (mkF m 29 #[.val (.long p1), .second, .val (.long p2), .second, .val (.long ((((p1.toUInt64 >>> ((1 : Int32) &&& 0x3f).toInt64.toUInt64).toInt64) / p2) <<< ((1 : Int32) &&& 0x3f).toInt64)), .second, .val (.long (p1 - (((((p1.toUInt64 >>> ((1 : Int32) &&& 0x3f).toInt64.toUInt64).toInt64) / p2) <<< ((1 : Int32) &&& 0x3f).toInt64) * p2))), .second] [(.long ((p1 - (((((p1.toUInt64 >>> ((1 : Int32) &&& 0x3f).toInt64.toUInt64).toInt64) / p2) <<< ((1 : Int32) &&& 0x3f).toInt64) * p2)) - p2)), (.long (p1 - (((((p1.toUInt64 >>> ((1 : Int32) &&& 0x3f).toInt64.toUInt64).toInt64) / p2) <<< ((1 : Int32) &&& 0x3f).toInt64) * p2)))])) rfl (hb hby d2_29) _ ?_
    show Steps p.tables e below (s₁.setTop (mkF m 32 #[.val (.long p1), .second, .val (.long p2), .second, .val (.long ((((p1.toUInt64 >>> ((1 : Int32) &&& 0x3f).toInt64.toUInt64).toInt64) / p2) <<< ((1 : Int32) &&& 0x3f).toInt64)), .second, .val (.long (p1 - (((((p1.toUInt64 >>> ((1 : Int32) &&& 0x3f).toInt64.toUInt64).toInt64) / p2) <<< ((1 : Int32) &&& 0x3f).toInt64) * p2))), .second] [(.long (-1 : Int64)), (.long ((p1 - (((((p1.toUInt64 >>> ((1 : Int32) &&& 0x3f).toInt64.toUInt64).toInt64) / p2) <<< ((1 : Int32) &&& 0x3f).toInt64) * p2)) - p2)), (.long (p1 - (((((p1.toUInt64 >>> ((1 : Int32) &&& 0x3f).toInt64.toUInt64).toInt64) / p2) <<< ((1 : Int32) &&& 0x3f).toInt64) * p2)))])) _
    refine XS.lxor X0.here hx rfl (hb hby d2_32) rfl ?_
    show Steps p.tables e below (s₁.setTop (mkF m 33 #[.val (.long p1), .second, .val (.long p2), .second, .val (.long ((((p1.toUInt64 >>> ((1 : Int32) &&& 0x3f).toInt64.toUInt64).toInt64) / p2) <<< ((1 : Int32) &&& 0x3f).toInt64)), .second, .val (.long (p1 - (((((p1.toUInt64 >>> ((1 : Int32) &&& 0x3f).toInt64.toUInt64).toInt64) / p2) <<< ((1 : Int32) &&& 0x3f).toInt64) * p2))), .second] [(.long (((p1 - (((((p1.toUInt64 >>> ((1 : Int32) &&& 0x3f).toInt64.toUInt64).toInt64) / p2) <<< ((1 : Int32) &&& 0x3f).toInt64) * p2)) - p2) ^^^ (-1 : Int64))), (.long (p1 - (((((p1.toUInt64 >>> ((1 : Int32) &&& 0x3f).toInt64.toUInt64).toInt64) / p2) <<< ((1 : Int32) &&& 0x3f).toInt64) * p2)))])) _
    refine XS.bipush X0.here hx rfl (hb hby d2_33) ?_
    show Steps p.tables e below (s₁.setTop (mkF m 35 #[.val (.long p1), .second, .val (.long p2), .second, .val (.long ((((p1.toUInt64 >>> ((1 : Int32) &&& 0x3f).toInt64.toUInt64).toInt64) / p2) <<< ((1 : Int32) &&& 0x3f).toInt64)), .second, .val (.long (p1 - (((((p1.toUInt64 >>> ((1 : Int32) &&& 0x3f).toInt64.toUInt64).toInt64) / p2) <<< ((1 : Int32) &&& 0x3f).toInt64) * p2))), .second] [(.int (63 : Int32)), (.long (((p1 - (((((p1.toUInt64 >>> ((1 : Int32) &&& 0x3f).toInt64.toUInt64).toInt64) / p2) <<< ((1 : Int32) &&& 0x3f).toInt64) * p2)) - p2) ^^^ (-1 : Int64))), (.long (p1 - (((((p1.toUInt64 >>> ((1 : Int32) &&& 0x3f).toInt64.toUInt64).toInt64) / p2) <<< ((1 : Int32) &&& 0x3f).toInt64) * p2)))])) _
    refine XS.lshr X0.here hx rfl (hb hby d2_35) rfl ?_
    show Steps p.tables e below (s₁.setTop (mkF m 36 #[.val (.long p1), .second, .val (.long p2), .second, .val (.long ((((p1.toUInt64 >>> ((1 : Int32) &&& 0x3f).toInt64.toUInt64).toInt64) / p2) <<< ((1 : Int32) &&& 0x3f).toInt64)), .second, .val (.long (p1 - (((((p1.toUInt64 >>> ((1 : Int32) &&& 0x3f).toInt64.toUInt64).toInt64) / p2) <<< ((1 : Int32) &&& 0x3f).toInt64) * p2))), .second] [(.long ((((p1 - (((((p1.toUInt64 >>> ((1 : Int32) &&& 0x3f).toInt64.toUInt64).toInt64) / p2) <<< ((1 : Int32) &&& 0x3f).toInt64) * p2)) - p2) ^^^ (-1 : Int64)) >>> ((63 : Int32) &&& 0x3f).toInt64)), (.long (p1 - (((((p1.toUInt64 >>> ((1 : Int32) &&& 0x3f).toInt64.toUInt64).toInt64) / p2) <<< ((1 : Int32) &&& 0x3f).toInt64) * p2)))])) _
    refine XS.lloadN X0.here hx rfl (hb hby d2_36) rfl ?_
    show Steps p.tables e below (s₁.setTop (mkF m 37 #[.val (.long p1), .second, .val (.long p2), .second, .val (.long ((((p1.toUInt64 >>> ((1 : Int32) &&& 0x3f).toInt64.toUInt64).toInt64) / p2) <<< ((1 : Int32) &&& 0x3f).toInt64)), .second, .val (.long (p1 - (((((p1.toUInt64 >>> ((1 : Int32) &&& 0x3f).toInt64.toUInt64).toInt64) / p2) <<< ((1 : Int32) &&& 0x3f).toInt64) * p2))), .second] [(.long p2), (.long ((((p1 - (((((p1.toUInt64 >>> ((1 : Int32) &&& 0x3f).toInt64.toUInt64).toInt64) / p2) <<< ((1 : Int32) &&& 0x3f).toInt64) * p2)) - p2) ^^^ (-1 : Int64)) >>> ((63 : Int32) &&& 0x3f).toInt64)), (.long (p1 - (((((p1.toUInt64 >>> ((1 : Int32) &&& 0x3f).toInt64.toUInt64).toInt64) / p2) <<< ((1 : Int32) &&& 0x3f).toInt64) * p2)))])) _
    refine XS.land X0.here hx rfl (hb hby d2_37) rfl ?_
    show Steps p.tables e below (s₁.setTop (mkF m 38 #[.val (.long p1), .second, .val (.long p2), .second, .val (.long ((((p1.toUInt64 >>> ((1 : Int32) &&& 0x3f).toInt64.toUInt64).toInt64) / p2) <<< ((1 : Int32) &&& 0x3f).toInt64)), .second, .val (.long (p1 - (((((p1.toUInt64 >>> ((1 : Int32) &&& 0x3f).toInt64.toUInt64).toInt64) / p2) <<< ((1 : Int32) &&& 0x3f).toInt64) * p2))), .second] [(.long (((((p1 - (((((p1.toUInt64 >>> ((1 : Int32) &&& 0x3f).toInt64.toUInt64).toInt64) / p2) <<< ((1 : Int32) &&& 0x3f).toInt64) * p2)) - p2) ^^^ (-1 : Int64)) >>> ((63 : Int32) &&& 0x3f).toInt64) &&& p2)), (.long (p1 - (((((p1.toUInt64 >>> ((1 : Int32) &&& 0x3f).toInt64.toUInt64).toInt64) / p2) <<< ((1 : Int32) &&& 0x3f).toInt64) * p2)))])) _
    refine XS.lsub X0.here hx rfl (hb hby d2_38) rfl ?_
    show Steps p.tables e below (s₁.setTop (mkF m 39 #[.val (.long p1), .second, .val (.long p2), .second, .val (.long ((((p1.toUInt64 >>> ((1 : Int32) &&& 0x3f).toInt64.toUInt64).toInt64) / p2) <<< ((1 : Int32) &&& 0x3f).toInt64)), .second, .val (.long (p1 - (((((p1.toUInt64 >>> ((1 : Int32) &&& 0x3f).toInt64.toUInt64).toInt64) / p2) <<< ((1 : Int32) &&& 0x3f).toInt64) * p2))), .second] [(.long (own_rem p1 p2))])) _
    exact X0.lreturnOut hx Bd.returns (hb hby d2_39) hr
  · show Q2 Z p1 p2 h0 n0 _ s₁.heap _
    exact ⟨rfl, N0, e0⟩
theorem d1_0 : decode prog_83_method_4_code 0 = .ok (.lload_n 0, 1) := by decide +kernel
theorem d1_1 : decode prog_83_method_4_code 1 = .ok (.iload 4, 2) := by decide +kernel
theorem d1_3 : decode prog_83_method_4_code 3 = .ok (.i2l, 1) := by decide +kernel
theorem d1_4 : decode prog_83_method_4_code 4 = .ok (.invokestatic 68, 3) := by decide +kernel
theorem d1_7 : decode prog_83_method_4_code 7 = .ok (.lconst 0, 1) := by decide +kernel
theorem d1_8 : decode prog_83_method_4_code 8 = .ok (.lcmp, 1) := by decide +kernel
theorem d1_9 : decode prog_83_method_4_code 9 = .ok (.ifCond .ne 17, 3) := by decide +kernel
theorem d1_12 : decode prog_83_method_4_code 12 = .ok (.lload_n 2, 1) := by decide +kernel
theorem d1_13 : decode prog_83_method_4_code 13 = .ok (.lload_n 0, 1) := by decide +kernel
theorem d1_14 : decode prog_83_method_4_code 14 = .ok (.lsub, 1) := by decide +kernel
theorem d1_15 : decode prog_83_method_4_code 15 = .ok (.ldc2_w 74, 3) := by decide +kernel
theorem d1_18 : decode prog_83_method_4_code 18 = .ok (.lcmp, 1) := by decide +kernel
theorem d1_19 : decode prog_83_method_4_code 19 = .ok (.ifCond .gt 7, 3) := by decide +kernel
theorem d1_22 : decode prog_83_method_4_code 22 = .ok (.iconst 1, 1) := by decide +kernel
theorem d1_23 : decode prog_83_method_4_code 23 = .ok (.goto 4, 3) := by decide +kernel
theorem d1_26 : decode prog_83_method_4_code 26 = .ok (.iconst 0, 1) := by decide +kernel
theorem d1_27 : decode prog_83_method_4_code 27 = .ok (.istore 5, 2) := by decide +kernel
theorem d1_29 : decode prog_83_method_4_code 29 = .ok (.iload 5, 2) := by decide +kernel
theorem d1_31 : decode prog_83_method_4_code 31 = .ok (.ifCond .eq 7, 3) := by decide +kernel
theorem d1_34 : decode prog_83_method_4_code 34 = .ok (.lload_n 0, 1) := by decide +kernel
theorem d1_35 : decode prog_83_method_4_code 35 = .ok (.goto 4, 3) := by decide +kernel
theorem d1_38 : decode prog_83_method_4_code 38 = .ok (.lload_n 2, 1) := by decide +kernel
theorem d1_39 : decode prog_83_method_4_code 39 = .ok (.lreturn, 1) := by decide +kernel
theorem pn_1 : plainName "com/example/lagwise/lagwise/postgresql/WalPositions" = true := by first | (simp [plainName, overriddenIn]; done) | decide +kernel
theorem pd_1 : parseMethodDescriptor "(JJI)J" = some ⟨[.long, .long, .int], some .long⟩ := by decide +kernel
theorem ef_1 (m : MethodId) (x0 : Int64) (x1 : Int64) (x2 : Int32) : entryFrame m #[(.long x0), (.long x1), (.int x2)] 6 = mkF m 0 #[.val (.long x0), .second, .val (.long x1), .second, .val (.int x2), .unset] [] := by first | (simp [entryFrame, mkF, argsToLocals, Value.category]; done) | rfl
def own_end (p1 p2 : Int64) (p3 : Int32) : Int64 := (if (own_rem p1 p3.toInt64) = (0 : Int64) then (if (40 : Int64) < (p2 - p1) then p2 else p1) else p2)
def Q1 (Z : State) (p1 : Int64) (p2 : Int64) (p3 : Int32) (h0 : Heap) (n0 : Nat) (v : Option Value) (h : Heap) (L : List Loc) : Prop := v = some (.long (own_end p1 p2 p3)) ∧ Fr n0 L ∧ h = h0
set_option maxRecDepth 65536 in
set_option maxHeartbeats 40000000 in
theorem rm1 (l : Launch) (Z : State) (a0 : Array Value) (hw : ∀ d ∈ tables_1, d.before a0 Z = true) (ws : List Jvm.Cond) (p1 : Int64) (p2 : Int64) (p3 : Int32) (h0 : Heap) (n0 : Nat) (Z0 : n0 ≤ h0.size) (hpos : ¬ p3.toInt64 < 0) (hnz : ¬ p3.toInt64 = 0) :
    MetFree l (⟨"com/example/lagwise/lagwise/postgresql/WalPositions", "end", "(JJI)J"⟩ : MethodName) (head1 (Jvm.Cond.code (⟨"com/example/lagwise/lagwise/postgresql/WalPositions", "end", "(JJI)J"⟩ : MethodName) prog_83_method_4_code 6 (some .long) :: ws) ({ frames := 1, cells := 0, slots := 0, locals := 19 } : Room)) (fun a U => a = #[(.long p1), (.long p2), (.int p3)] ∧ Z.Warmed39 U.vm ∧ U.heap = h0) (fun _ _ _ _ _ => True) (fun _ U o U' => ∃ v L, o = .returned v ∧ Q1 Z p1 p2 p3 h0 n0 v U'.heap L ∧ FrameEnd U o U' L ({ frames := 1, cells := 0, slots := 0, locals := 19 } : Room).cells ({ frames := 1, cells := 0, slots := 0, locals := 19 } : Room).slots) := by
  refine MetFree.of_bodySF (plainFor_of_name pn_1) hisR ?_
  intro p e s m args below meth c s₁ Bd hml0 hP hK
  obtain ⟨rfl, hZ, hh⟩ := hP
  have hx := Bd.exec
  have hby := Bd.bytes
  have hml : c.maxLocals = 6 := hml0
  have hown : s.vm.findClass "com/example/lagwise/lagwise/postgresql/WalPositions" = some m.cls := findClass_of_methodNamed Bd.named
  have hnm := (name_of_methodNamed Bd.named Bd.method).1
  have X0 : Stand p l e ({ frames := 1, cells := 0, slots := 0, locals := 19 } : Room) s m #[(.long p1), (.long p2), (.int p3)] below meth c s₁ [] 0 0 := Stand.of_body Bd
  have e0 : s₁.heap = h0 := by rw [← hh, Bd.state]; rfl
  have N0 := Fr.nil n0
  have pre0 : ∀ t, Steps p.tables e below (s₁.setTop (mkF m 0 #[.val (.long p1), .second, .val (.long p2), .second, .val (.int p3), .unset] [])) t → Steps p.tables e below (s₁.setTop (entryFrame m #[(.long p1), (.long p2), (.int p3)] 6)) t := fun t k => castTop (ef_1 m p1 p2 p3) k
  obtain ⟨_, _, ⟨T3, L3, k3, n3⟩, -, X3, ⟨Lc3, hQ3, l3, y3, z3⟩, st3⟩ := Jvm.LawKit.callS X0 hx (y := (⟨"java/lang/Long", "remainderUnsigned", "(JJ)J"⟩ : MethodName)) hown (mvT hZ (hw _ (List.mem_of_getElem? (i := 8) rfl))) (mvT hZ (hw _ (List.mem_of_getElem? (i := 9) rfl))) (mvT hZ (hw _ (List.mem_of_getElem? (i := 10) rfl))) (mvT hZ (hw _ (List.mem_of_getElem? (i := 11) rfl))) (by decide) (backOf (W := 0) (rm2 l Z a0 hw [] p1 (p3.toInt64) h0 n0 Z0 hpos hnz) hZ (hw _ (List.mem_of_getElem? (i := 11) rfl)) (hw _ (List.mem_of_getElem? (i := 10) rfl)) (by decide) (by decide)) (g := (mkF m 4 #[.val (.long p1), .second, .val (.long p2), .second, .val (.int p3), .unset] [(.long (p3.toInt64)), (.long p1)])) rfl (by rw [hml]; rfl) (argsL := [(.long p1), (.long (p3.toInt64))]) (rest := []) (lenOf pd_2 rfl) rfl (by show 2 * 0 + _ ≤ _; exact Nat.le_of_eq rfl) (hb hby d1_4) (fun _ _ => ⟨rfl, e0, (by decide : 0 + 0 ≤ _), (by decide : 0 + 0 ≤ _)⟩)
  dsimp only [Pt.U, Pt.locs, Pt.cells, Pt.slots] at X3 l3 y3 z3 st3 hQ3
  subst l3 y3 z3
  obtain ⟨rfl, N3q, e3⟩ := hQ3
  have N3 := Fr.app N0 N3q
  obtain ⟨r, er⟩ : ∃ r : Int64, r = own_end p1 p2 p3 := ⟨_, rfl⟩
  obtain ⟨fs, hr, hrun, hended, hW, hsame⟩ := X3.leave (v := some (.long r)) (fun h => by rw [Bd.returns] at h; cases h)
  refine ⟨_, _, pre0 _ ?_, hrun, hended, _, _, rfl, ?_, ⟨_, rfl⟩, hW, hsame.mono (by decide) (by decide)⟩
  ·
    show Steps p.tables e below (s₁.setTop (mkF m 0 #[.val (.long p1), .second, .val (.long p2), .second, .val (.int p3), .unset] [])) _
    refine XS.lloadN X0.here hx rfl (hb hby d1_0) rfl ?_
    show Steps p.tables e below (s₁.setTop (mkF m 1 #[.val (.long p1), .second, .val (.long p2), .second, .val (.int p3), .unset] [(.long p1)])) _
    refine XS.iload X0.here hx rfl (hb hby d1_1) rfl ?_
    show Steps p.tables e below (s₁.setTop (mkF m 3 #[.val (.long p1), .second, .val (.long p2), .second, .val (.int p3), .unset] [(.int p3), (.long p1)])) _
    refine XS.i2l X0.here hx rfl (hb hby d1_3) rfl ?_
    show Steps p.tables e below (s₁.setTop (mkF m 4 #[.val (.long p1), .second, .val (.long p2), .second, .val (.int p3), .unset] [(.long (p3.toInt64)), (.long p1)])) _
    refine st3 _ ?_
    show Steps p.tables e below (T3.setTop (mkF m 7 #[.val (.long p1), .second, .val (.long p2), .second, .val (.int p3), .unset] [(.long (own_rem p1 p3.toInt64))])) _
    refine XS.lconst X3.here hx rfl (hb hby d1_7) ?_
    show Steps p.tables e below (T3.setTop (mkF m 8 #[.val (.long p1), .second, .val (.long p2), .second, .val (.int p3), .unset] [(.long (0 : Int64)), (.long (own_rem p1 p3.toInt64))])) _
    refine XS.lcmp X3.here hx rfl (hb hby d1_8) rfl ?_
    by_cases cc0 : (own_rem p1 p3.toInt64) = (0 : Int64)
    · show Steps p.tables e below (T3.setTop (mkF m 9 #[.val (.long p1), .second, .val (.long p2), .second, .val (.int p3), .unset] [(.int (lcmpW (own_rem p1 p3.toInt64) (0 : Int64)))])) _
      refine XS.ifNo X3.here hx rfl (hb hby d1_9) rfl ((if0 _ _).trans (teq ((lw_eq _ _).mpr cc0)).2) ?_
      show Steps p.tables e below (T3.setTop (mkF m 12 #[.val (.long p1), .second, .val (.long p2), .second, .val (.int p3), .unset] [])) _
      refine XS.lloadN X3.here hx rfl (hb hby d1_12) rfl ?_
      show Steps p.tables e below (T3.setTop (mkF m 13 #[.val (.long p1), .second, .val (.long p2), .second, .val (.int p3), .unset] [(.long p2)])) _
      refine XS.lloadN X3.here hx rfl (hb hby d1_13) rfl ?_
      show Steps p.tables e below (T3.setTop (mkF m 14 #[.val (.long p1), .second, .val (.long p2), .second, .val (.int p3), .unset] [(.long p1), (.long p2)])) _
      refine XS.lsub X3.here hx rfl (hb hby d1_14) rfl ?_
      show Steps p.tables e below (T3.setTop (mkF m 15 #[.val (.long p1), .second, .val (.long p2), .second, .val (.int p3), .unset] [(.long (p2 - p1))])) _
      refine X3.ldc2Long hx hown (mvT hZ (hw _ (List.mem_of_getElem? (i := 13) rfl))) (g := (mkF m 15 #[.val (.long p1), .second, .val (.long p2), .second, .val (.int p3), .unset] [(.long (p2 - p1))])) rfl (hb hby d1_15) _ ?_
      show Steps p.tables e below (T3.setTop (mkF m 18 #[.val (.long p1), .second, .val (.long p2), .second, .val (.int p3), .unset] [(.long (40 : Int64)), (.long (p2 - p1))])) _
      refine XS.lcmp X3.here hx rfl (hb hby d1_18) rfl ?_
      by_cases cc1 : (40 : Int64) < (p2 - p1)
      · show Steps p.tables e below (T3.setTop (mkF m 19 #[.val (.long p1), .second, .val (.long p2), .second, .val (.int p3), .unset] [(.int (lcmpW (p2 - p1) (40 : Int64)))])) _
        refine XS.ifYes X3.here hx rfl (pc0 := 19) (pc' := 26) rfl (hb hby d1_19) rfl ((if0 _ _).trans (tlt ((lw_gt _ _).mpr cc1)).2.2.1) (by decide) (by decide) ?_
        show Steps p.tables e below (T3.setTop (mkF m 26 #[.val (.long p1), .second, .val (.long p2), .second, .val (.int p3), .unset] [])) _
        refine XS.iconst X3.here hx rfl (hb hby d1_26) ?_
        show Steps p.tables e below (T3.setTop (mkF m 27 #[.val (.long p1), .second, .val (.long p2), .second, .val (.int p3), .unset] [(.int (0 : Int32))])) _
        refine XS.istore X3.here hx rfl (hb hby d1_27) rfl (l' := #[.val (.long p1), .second, .val (.long p2), .second, .val (.int p3), .val (.int (0 : Int32))]) rfl ?_
        show Steps p.tables e below (T3.setTop (mkF m 29 #[.val (.long p1), .second, .val (.long p2), .second, .val (.int p3), .val (.int (0 : Int32))] [])) _
        refine XS.iload X3.here hx rfl (hb hby d1_29) rfl ?_
        show Steps p.tables e below (T3.setTop (mkF m 31 #[.val (.long p1), .second, .val (.long p2), .second, .val (.int p3), .val (.int (0 : Int32))] [(.int (0 : Int32))])) _
        refine XS.ifYes X3.here hx rfl (pc0 := 31) (pc' := 38) rfl (hb hby d1_31) rfl ((if0 _ _).trans (teq (by decide : (0 : Int32) = (0 : Int32))).1) (by decide) (by decide) ?_
        show Steps p.tables e below (T3.setTop (mkF m 38 #[.val (.long p1), .second, .val (.long p2), .second, .val (.int p3), .val (.int (0 : Int32))] [])) _
        refine XS.lloadN X3.here hx rfl (hb hby d1_38) rfl ?_
        rw [show r = p2 from er.trans (by rw [own_end, if_pos cc0, if_pos cc1])] at hr
        show Steps p.tables e below (T3.setTop (mkF m 39 #[.val (.long p1), .second, .val (.long p2), .second, .val (.int p3), .val (.int (0 : Int32))] [(.long p2)])) _
        exact X3.lreturnOut hx Bd.returns (hb hby d1_39) hr
      · show Steps p.tables e below (T3.setTop (mkF m 19 #[.val (.long p1), .second, .val (.long p2), .second, .val (.int p3), .unset] [(.int (lcmpW (p2 - p1) (40 : Int64)))])) _
        refine XS.ifNo X3.here hx rfl (hb hby d1_19) rfl ((if0 _ _).trans (flt (fun z => cc1 ((lw_gt _ _).mp z))).2.2.1) ?_
        show Steps p.tables e below (T3.setTop (mkF m 22 #[.val (.long p1), .second, .val (.long p2), .second, .val (.int p3), .unset] [])) _
        refine XS.iconst X3.here hx rfl (hb hby d1_22) ?_
        show Steps p.tables e below (T3.setTop (mkF m 23 #[.val (.long p1), .second, .val (.long p2), .second, .val (.int p3), .unset] [(.int (1 : Int32))])) _
        refine XS.goto X3.here hx rfl (pc0 := 23) (pc' := 27) rfl (hb hby d1_23) (by decide) (by decide) ?_
        show Steps p.tables e below (T3.setTop (mkF m 27 #[.val (.long p1), .second, .val (.long p2), .second, .val (.int p3), .unset] [(.int (1 : Int32))])) _
        refine XS.istore X3.here hx rfl (hb hby d1_27) rfl (l' := #[.val (.long p1), .second, .val (.long p2), .second, .val (.int p3), .val (.int (1 : Int32))]) rfl ?_
        show Steps p.tables e below (T3.setTop (mkF m 29 #[.val (.long p1), .second, .val (.long p2), .second, .val (.int p3), .val (.int (1 : Int32))] [])) _
        refine XS.iload X3.here hx rfl (hb hby d1_29) rfl ?_
        show Steps p.tables e below (T3.setTop (mkF m 31 #[.val (.long p1), .second, .val (.long p2), .second, .val (.int p3), .val (.int (1 : Int32))] [(.int (1 : Int32))])) _
        refine XS.ifNo X3.here hx rfl (hb hby d1_31) rfl ((if0 _ _).trans (feq (by decide : ¬ ((1 : Int32) = (0 : Int32)))).1) ?_
        show Steps p.tables e below (T3.setTop (mkF m 34 #[.val (.long p1), .second, .val (.long p2), .second, .val (.int p3), .val (.int (1 : Int32))] [])) _
        refine XS.lloadN X3.here hx rfl (hb hby d1_34) rfl ?_
        show Steps p.tables e below (T3.setTop (mkF m 35 #[.val (.long p1), .second, .val (.long p2), .second, .val (.int p3), .val (.int (1 : Int32))] [(.long p1)])) _
        refine XS.goto X3.here hx rfl (pc0 := 35) (pc' := 39) rfl (hb hby d1_35) (by decide) (by decide) ?_
        rw [show r = p1 from er.trans (by rw [own_end, if_pos cc0, if_neg cc1])] at hr
        show Steps p.tables e below (T3.setTop (mkF m 39 #[.val (.long p1), .second, .val (.long p2), .second, .val (.int p3), .val (.int (1 : Int32))] [(.long p1)])) _
        exact X3.lreturnOut hx Bd.returns (hb hby d1_39) hr
    · show Steps p.tables e below (T3.setTop (mkF m 9 #[.val (.long p1), .second, .val (.long p2), .second, .val (.int p3), .unset] [(.int (lcmpW (own_rem p1 p3.toInt64) (0 : Int64)))])) _
      refine XS.ifYes X3.here hx rfl (pc0 := 9) (pc' := 26) rfl (hb hby d1_9) rfl ((if0 _ _).trans (feq (fun z => cc0 ((lw_eq _ _).mp z))).2) (by decide) (by decide) ?_
      show Steps p.tables e below (T3.setTop (mkF m 26 #[.val (.long p1), .second, .val (.long p2), .second, .val (.int p3), .unset] [])) _
      refine XS.iconst X3.here hx rfl (hb hby d1_26) ?_
      show Steps p.tables e below (T3.setTop (mkF m 27 #[.val (.long p1), .second, .val (.long p2), .second, .val (.int p3), .unset] [(.int (0 : Int32))])) _
      refine XS.istore X3.here hx rfl (hb hby d1_27) rfl (l' := #[.val (.long p1), .second, .val (.long p2), .second, .val (.int p3), .val (.int (0 : Int32))]) rfl ?_
      show Steps p.tables e below (T3.setTop (mkF m 29 #[.val (.long p1), .second, .val (.long p2), .second, .val (.int p3), .val (.int (0 : Int32))] [])) _
      refine XS.iload X3.here hx rfl (hb hby d1_29) rfl ?_
      show Steps p.tables e below (T3.setTop (mkF m 31 #[.val (.long p1), .second, .val (.long p2), .second, .val (.int p3), .val (.int (0 : Int32))] [(.int (0 : Int32))])) _
      refine XS.ifYes X3.here hx rfl (pc0 := 31) (pc' := 38) rfl (hb hby d1_31) rfl ((if0 _ _).trans (teq (by decide : (0 : Int32) = (0 : Int32))).1) (by decide) (by decide) ?_
      show Steps p.tables e below (T3.setTop (mkF m 38 #[.val (.long p1), .second, .val (.long p2), .second, .val (.int p3), .val (.int (0 : Int32))] [])) _
      refine XS.lloadN X3.here hx rfl (hb hby d1_38) rfl ?_
      rw [show r = p2 from er.trans (by rw [own_end, if_neg cc0])] at hr
      show Steps p.tables e below (T3.setTop (mkF m 39 #[.val (.long p1), .second, .val (.long p2), .second, .val (.int p3), .val (.int (0 : Int32))] [(.long p2)])) _
      exact X3.lreturnOut hx Bd.returns (hb hby d1_39) hr
  · show Q1 Z p1 p2 p3 h0 n0 _ T3.heap _
    exact ⟨by rw [er], N3, e3⟩
def own_bs (p3 : Int32) : Int32 := ((1024 : Int32) <<< (((p3 &&& (2147483647 : Int32)) - ((p3 &&& (2147483647 : Int32)) / (7 : Int32)) * (7 : Int32)) &&& 31))
def own_mask (bs : Int32) : Int64 := ((bs.toInt64) - (1 : Int64))
def own_wr (p1 : Int64) (mask : Int64) (p4 : Int32) : Int64 := (if (p4 &&& (1 : Int32)) = (0 : Int32) then p1 else (p1 &&& (mask ^^^ (-1 : Int64))))
def own_dd (p2 : Int64) (p4 : Int32) : Int64 := (if (p4 &&& (2 : Int32)) = (0 : Int32) then ((p2.toUInt64 >>> ((1 : Int32) &&& 0x3f).toInt64.toUInt64).toInt64) else (p2 &&& (63 : Int64)))
def own_ins (wr : Int64) (dd : Int64) : Int64 := (wr + dd)
def own_ab (wr : Int64) (mask : Int64) : Int32 := (if (wr &&& mask) = (0 : Int64) then (1 : Int32) else (0 : Int32))
def own_ex (ab : Int32) (dd : Int64) (wr : Int64) (ins : Int64) : Int64 := (if ab = (0 : Int32) then ins else (if (40 : Int64) < dd then ins else wr))
/-! the plain law -/
theorem own_rem32 (x y : Int32) : (x - (x / y) * y).toInt = x.toInt.tmod y.toInt := by
  have a := (x % y).toInt_lt; have b := (x % y).le_toInt
  rw [Int32.toInt_mod] at a b
  rw [Int32.toInt_sub, Int32.toInt_mul, Int32.toInt_div, Int.bmod_mul_bmod, Int.sub_bmod_bmod, Int.mul_comm, ← Int.tmod_def]
  exact Jvm.Kit.bmod32 b a
theorem own_bs_cases (p3 : Int32) : own_bs p3 = 1024 ∨ own_bs p3 = 2048 ∨ own_bs p3 = 4096 ∨ own_bs p3 = 8192 ∨ own_bs p3 = 16384 ∨ own_bs p3 = 32768 ∨ own_bs p3 = 65536 := by
  have e1 : (p3 &&& (2147483647 : Int32)).toInt = p3.toInt % 2 ^ 31 := Jvm.Kit.i32_mask p3 2147483647 (k := 31) (by decide) (by decide)
  have e2 := own_rem32 (p3 &&& (2147483647 : Int32)) 7
  have e7 : (7 : Int32).toInt = 7 := rfl
  rw [e7, Int.tmod_eq_emod_of_nonneg (by omega)] at e2
  unfold own_bs
  generalize (p3 &&& (2147483647 : Int32)) - (p3 &&& (2147483647 : Int32)) / 7 * 7 = r at *
  generalize (p3 &&& (2147483647 : Int32)).toInt = q at *
  have k : r = 0 ∨ r = 1 ∨ r = 2 ∨ r = 3 ∨ r = 4 ∨ r = 5 ∨ r = 6 := by
    have a0 : (0 : Int32).toInt = 0 := rfl
    have a1 : (1 : Int32).toInt = 1 := rfl
    have a2 : (2 : Int32).toInt = 2 := rfl
    have a3 : (3 : Int32).toInt = 3 := rfl
    have a4 : (4 : Int32).toInt = 4 := rfl
    have a5 : (5 : Int32).toInt = 5 := rfl
    have a6 : (6 : Int32).toInt = 6 := rfl
    simp only [← Int32.toInt_inj, a0, a1, a2, a3, a4, a5, a6]
    omega
  rcases k with rfl | rfl | rfl | rfl | rfl | rfl | rfl <;> decide
theorem own_bs_ok (p3 : Int32) : (¬ (own_bs p3).toInt64 < 0) ∧ (¬ (own_bs p3).toInt64 = 0) := by
  rcases own_bs_cases p3 with h | h | h | h | h | h | h <;> rw [h] <;> decide
theorem own_toNat (x : Int64) : x.toInt = if 2 * x.toBitVec.toNat < 2 ^ 64 then (x.toBitVec.toNat : Int) else (x.toBitVec.toNat : Int) - 2 ^ 64 := by
  have e : x.toInt = x.toBitVec.toInt := rfl
  rw [e, BitVec.toInt_eq_toNat_cond]
  rfl
theorem own_lushr1 (x : Int64) : ((x.toUInt64 >>> ((1 : Int32) &&& 0x3f).toInt64.toUInt64).toInt64).toInt = ((x.toBitVec.toNat / 2 : Nat) : Int) := by
  have hb := x.toBitVec.isLt
  have e1 : (((1 : Int32) &&& 0x3f).toInt64.toUInt64.toBitVec % 64) = 1#64 := by decide
  have e2 : ((x.toUInt64 >>> ((1 : Int32) &&& 0x3f).toInt64.toUInt64).toInt64).toBitVec.toNat = x.toBitVec.toNat / 2 := by
    rw [UInt64.toBitVec_toInt64, UInt64.toBitVec_shiftRight, Int64.toBitVec_toUInt64, e1, BitVec.ushiftRight_eq', BitVec.toNat_ushiftRight, Nat.shiftRight_eq_div_pow]
    rfl
  rw [own_toNat, e2, if_pos (by omega)]
theorem own_not (x : Int64) : (x ^^^ (-1 : Int64)).toInt = - x.toInt - 1 := by
  have e1 : (x ^^^ (-1 : Int64)).toBitVec = ~~~ x.toBitVec := by
    rw [Int64.toBitVec_xor]
    have e : (-1 : Int64).toBitVec = BitVec.allOnes 64 := by decide
    rw [e, BitVec.xor_allOnes]
  have e2 : (x ^^^ (-1 : Int64)).toBitVec.toNat = 2 ^ 64 - 1 - x.toBitVec.toNat := by rw [e1, BitVec.toNat_not]
  have hb := x.toBitVec.isLt
  rw [own_toNat, own_toNat x, e2]
  generalize x.toBitVec.toNat = n at *
  split <;> split <;> omega
theorem own_key1024 (w : Int64) : own_rem w (1024 : Int32).toInt64 = 0 ↔ w &&& own_mask 1024 = 0 := by
  have hb : ((1024 : Int32).toInt64) = (1024 : Int64) := by decide
  have hB : (1024 : Int64).toInt = 1024 := rfl
  have hm : own_mask 1024 = (1023 : Int64) := by decide
  have h0 : (0 : Int64).toInt = 0 := rfl
  have hk : (w &&& (1023 : Int64)).toInt = w.toInt % 2 ^ 10 := Jvm.Kit.i64_mask w 1023 (k := 10) (by decide) (by decide)
  have hW := own_toNat w
  have hlt := w.toBitVec.isLt
  have hH := own_lushr1 w
  rw [hb, hm, own_rem]
  generalize (w.toUInt64 >>> ((1 : Int32) &&& 0x3f).toInt64.toUInt64).toInt64 = H at *
  generalize w.toBitVec.toNat = W at *
  have hq : (H / (1024 : Int64)).toInt = ((W / 2 / 1024 : Nat) : Int) := by
    rw [Jvm.Kit.i64_div (by rw [hB]; omega), hB, Int.tdiv_eq_ediv_of_nonneg (by omega), hH]
    omega
  generalize H / (1024 : Int64) = q at *
  have hs : (q <<< ((1 : Int32) &&& 0x3f).toInt64).toInt = q.toInt * 2 ^ 1 := Jvm.Kit.i64_shl q _ (k := 1) (by decide) (by omega) (by omega)
  generalize q <<< ((1 : Int32) &&& 0x3f).toInt64 = q2 at *
  have hr : (w - q2 * (1024 : Int64)).toInt = (W : Int) - q2.toInt * 1024 := by
    rw [Int64.toInt_sub, Int64.toInt_mul, hB, Int.sub_bmod_bmod, Int.bmod_def]
    split at hW <;> omega
  generalize w - q2 * (1024 : Int64) = r at *
  have hrB : (r - (1024 : Int64)).toInt = r.toInt - 1024 := by rw [Jvm.Kit.i64_sub (by rw [hB]; omega) (by rw [hB]; omega), hB]
  have hn := own_not (r - (1024 : Int64))
  generalize (r - (1024 : Int64)) ^^^ (-1 : Int64) = y at *
  have hsh : (y >>> ((63 : Int32) &&& 0x3f).toInt64).toInt = y.toInt / 2 ^ 63 := Jvm.Kit.i64_shr y _ (k := 63) (by decide)
  generalize y >>> ((63 : Int32) &&& 0x3f).toInt64 = g at *
  by_cases hc : r.toInt < 1024
  · have hg : g = 0 := by rw [← Int64.toInt_inj, h0]; omega
    have ha : (0 : Int64) &&& (1024 : Int64) = 0 := by decide
    rw [hg, ha, Int64.sub_zero, ← Int64.toInt_inj, ← Int64.toInt_inj, hk, h0]
    split at hW <;> omega
  · have h1 : (-1 : Int64).toInt = -1 := rfl
    have hg : g = -1 := by rw [← Int64.toInt_inj, h1]; omega
    have ha : (-1 : Int64) &&& (1024 : Int64) = 1024 := by decide
    rw [hg, ha, ← Int64.toInt_inj, ← Int64.toInt_inj, hk, hrB, h0]
    split at hW <;> omega
theorem own_key2048 (w : Int64) : own_rem w (2048 : Int32).toInt64 = 0 ↔ w &&& own_mask 2048 = 0 := by
  have hb : ((2048 : Int32).toInt64) = (2048 : Int64) := by decide
  have hB : (2048 : Int64).toInt = 2048 := rfl
  have hm : own_mask 2048 = (2047 : Int64) := by decide
  have h0 : (0 : Int64).toInt = 0 := rfl
  have hk : (w &&& (2047 : Int64)).toInt = w.toInt % 2 ^ 11 := Jvm.Kit.i64_mask w 2047 (k := 11) (by decide) (by decide)
  have hW := own_toNat w
  have hlt := w.toBitVec.isLt
  have hH := own_lushr1 w
  rw [hb, hm, own_rem]
  generalize (w.toUInt64 >>> ((1 : Int32) &&& 0x3f).toInt64.toUInt64).toInt64 = H at *
  generalize w.toBitVec.toNat = W at *
  have hq : (H / (2048 : Int64)).toInt = ((W / 2 / 2048 : Nat) : Int) := by
    rw [Jvm.Kit.i64_div (by rw [hB]; omega), hB, Int.tdiv_eq_ediv_of_nonneg (by omega), hH]
    omega
  generalize H / (2048 : Int64) = q at *
  have hs : (q <<< ((1 : Int32) &&& 0x3f).toInt64).toInt = q.toInt * 2 ^ 1 := Jvm.Kit.i64_shl q _ (k := 1) (by decide) (by omega) (by omega)
  generalize q <<< ((1 : Int32) &&& 0x3f).toInt64 = q2 at *
  have hr : (w - q2 * (2048 : Int64)).toInt = (W : Int) - q2.toInt * 2048 := by
    rw [Int64.toInt_sub, Int64.toInt_mul, hB, Int.sub_bmod_bmod, Int.bmod_def]
    split at hW <;> omega
  generalize w - q2 * (2048 : Int64) = r at *
  have hrB : (r - (2048 : Int64)).toInt = r.toInt - 2048 := by rw [Jvm.Kit.i64_sub (by rw [hB]; omega) (by rw [hB]; omega), hB]
  have hn := own_not (r - (2048 : Int64))
  generalize (r - (2048 : Int64)) ^^^ (-1 : Int64) = y at *
  have hsh : (y >>> ((63 : Int32) &&& 0x3f).toInt64).toInt = y.toInt / 2 ^ 63 := Jvm.Kit.i64_shr y _ (k := 63) (by decide)
  generalize y >>> ((63 : Int32) &&& 0x3f).toInt64 = g at *
  by_cases hc : r.toInt < 2048
  · have hg : g = 0 := by rw [← Int64.toInt_inj, h0]; omega
    have ha : (0 : Int64) &&& (2048 : Int64) = 0 := by decide
    rw [hg, ha, Int64.sub_zero, ← Int64.toInt_inj, ← Int64.toInt_inj, hk, h0]
    split at hW <;> omega
  · have h1 : (-1 : Int64).toInt = -1 := rfl
    have hg : g = -1 := by rw [← Int64.toInt_inj, h1]; omega
    have ha : (-1 : Int64) &&& (2048 : Int64) = 2048 := by decide
    rw [hg, ha, ← Int64.toInt_inj, ← Int64.toInt_inj, hk, hrB, h0]
    split at hW <;> omega
theorem own_key4096 (w : Int64) : own_rem w (4096 : Int32).toInt64 = 0 ↔ w &&& own_mask 4096 = 0 := by
  have hb : ((4096 : Int32).toInt64) = (4096 : Int64) := by decide
  have hB : (4096 : Int64).toInt = 4096 := rfl
  have hm : own_mask 4096 = (4095 : Int64) := by decide
  have h0 : (0 : Int64).toInt = 0 := rfl
  have hk : (w &&& (4095 : Int64)).toInt = w.toInt % 2 ^ 12 := Jvm.Kit.i64_mask w 4095 (k := 12) (by decide) (by decide)
  have hW := own_toNat w
  have hlt := w.toBitVec.isLt
  have hH := own_lushr1 w
  rw [hb, hm, own_rem]
  generalize (w.toUInt64 >>> ((1 : Int32) &&& 0x3f).toInt64.toUInt64).toInt64 = H at *
  generalize w.toBitVec.toNat = W at *
  have hq : (H / (4096 : Int64)).toInt = ((W / 2 / 4096 : Nat) : Int) := by
    rw [Jvm.Kit.i64_div (by rw [hB]; omega), hB, Int.tdiv_eq_ediv_of_nonneg (by omega), hH]
    omega
  generalize H / (4096 : Int64) = q at *
  have hs : (q <<< ((1 : Int32) &&& 0x3f).toInt64).toInt = q.toInt * 2 ^ 1 := Jvm.Kit.i64_shl q _ (k := 1) (by decide) (by omega) (by omega)
  generalize q <<< ((1 : Int32) &&& 0x3f).toInt64 = q2 at *
  have hr : (w - q2 * (4096 : Int64)).toInt = (W : Int) - q2.toInt * 4096 := by
    rw [Int64.toInt_sub, Int64.toInt_mul, hB, Int.sub_bmod_bmod, Int.bmod_def]
    split at hW <;> omega
  generalize w - q2 * (4096 : Int64) = r at *
  have hrB : (r - (4096 : Int64)).toInt = r.toInt - 4096 := by rw [Jvm.Kit.i64_sub (by rw [hB]; omega) (by rw [hB]; omega), hB]
  have hn := own_not (r - (4096 : Int64))
  generalize (r - (4096 : Int64)) ^^^ (-1 : Int64) = y at *
  have hsh : (y >>> ((63 : Int32) &&& 0x3f).toInt64).toInt = y.toInt / 2 ^ 63 := Jvm.Kit.i64_shr y _ (k := 63) (by decide)
  generalize y >>> ((63 : Int32) &&& 0x3f).toInt64 = g at *
  by_cases hc : r.toInt < 4096
  · have hg : g = 0 := by rw [← Int64.toInt_inj, h0]; omega
    have ha : (0 : Int64) &&& (4096 : Int64) = 0 := by decide
    rw [hg, ha, Int64.sub_zero, ← Int64.toInt_inj, ← Int64.toInt_inj, hk, h0]
    split at hW <;> omega
  · have h1 : (-1 : Int64).toInt = -1 := rfl
    have hg : g = -1 := by rw [← Int64.toInt_inj, h1]; omega
    have ha : (-1 : Int64) &&& (4096 : Int64) = 4096 := by decide
    rw [hg, ha, ← Int64.toInt_inj, ← Int64.toInt_inj, hk, hrB, h0]
    split at hW <;> omega
theorem own_key8192 (w : Int64) : own_rem w (8192 : Int32).toInt64 = 0 ↔ w &&& own_mask 8192 = 0 := by
  have hb : ((8192 : Int32).toInt64) = (8192 : Int64) := by decide
  have hB : (8192 : Int64).toInt = 8192 := rfl
  have hm : own_mask 8192 = (8191 : Int64) := by decide
  have h0 : (0 : Int64).toInt = 0 := rfl
  have hk : (w &&& (8191 : Int64)).toInt = w.toInt % 2 ^ 13 := Jvm.Kit.i64_mask w 8191 (k := 13) (by decide) (by decide)
  have hW := own_toNat w
  have hlt := w.toBitVec.isLt
  have hH := own_lushr1 w
  rw [hb, hm, own_rem]
  generalize (w.toUInt64 >>> ((1 : Int32) &&& 0x3f).toInt64.toUInt64).toInt64 = H at *
  generalize w.toBitVec.toNat = W at *
  have hq : (H / (8192 : Int64)).toInt = ((W / 2 / 8192 : Nat) : Int) := by
    rw [Jvm.Kit.i64_div (by rw [hB]; omega), hB, Int.tdiv_eq_ediv_of_nonneg (by omega), hH]
    omega
  generalize H / (8192 : Int64) = q at *
  have hs : (q <<< ((1 : Int32) &&& 0x3f).toInt64).toInt = q.toInt * 2 ^ 1 := Jvm.Kit.i64_shl q _ (k := 1) (by decide) (by omega) (by omega)
  generalize q <<< ((1 : Int32) &&& 0x3f).toInt64 = q2 at *
  have hr : (w - q2 * (8192 : Int64)).toInt = (W : Int) - q2.toInt * 8192 := by
    rw [Int64.toInt_sub, Int64.toInt_mul, hB, Int.sub_bmod_bmod, Int.bmod_def]
    split at hW <;> omega
  generalize w - q2 * (8192 : Int64) = r at *
  have hrB : (r - (8192 : Int64)).toInt = r.toInt - 8192 := by rw [Jvm.Kit.i64_sub (by rw [hB]; omega) (by rw [hB]; omega), hB]
  have hn := own_not (r - (8192 : Int64))
  generalize (r - (8192 : Int64)) ^^^ (-1 : Int64) = y at *
  have hsh : (y >>> ((63 : Int32) &&& 0x3f).toInt64).toInt = y.toInt / 2 ^ 63 := Jvm.Kit.i64_shr y _ (k := 63) (by decide)
  generalize y >>> ((63 : Int32) &&& 0x3f).toInt64 = g at *
  by_cases hc : r.toInt < 8192
  · have hg : g = 0 := by rw [← Int64.toInt_inj, h0]; omega
    have ha : (0 : Int64) &&& (8192 : Int64) = 0 := by decide
    rw [hg, ha, Int64.sub_zero, ← Int64.toInt_inj, ← Int64.toInt_inj, hk, h0]
    split at hW <;> omega
  · have h1 : (-1 : Int64).toInt = -1 := rfl
    have hg : g = -1 := by rw [← Int64.toInt_inj, h1]; omega
    have ha : (-1 : Int64) &&& (8192 : Int64) = 8192 := by decide
    rw [hg, ha, ← Int64.toInt_inj, ← Int64.toInt_inj, hk, hrB, h0]
    split at hW <;> omega
theorem own_key16384 (w : Int64) : own_rem w (16384 : Int32).toInt64 = 0 ↔ w &&& own_mask 16384 = 0 := by
  have hb : ((16384 : Int32).toInt64) = (16384 : Int64) := by decide
  have hB : (16384 : Int64).toInt = 16384 := rfl
  have hm : own_mask 16384 = (16383 : Int64) := by decide
  have h0 : (0 : Int64).toInt = 0 := rfl
  have hk : (w &&& (16383 : Int64)).toInt = w.toInt % 2 ^ 14 := Jvm.Kit.i64_mask w 16383 (k := 14) (by decide) (by decide)
  have hW := own_toNat w
  have hlt := w.toBitVec.isLt
  have hH := own_lushr1 w
  rw [hb, hm, own_rem]
  generalize (w.toUInt64 >>> ((1 : Int32) &&& 0x3f).toInt64.toUInt64).toInt64 = H at *
  generalize w.toBitVec.toNat = W at *
  have hq : (H / (16384 : Int64)).toInt = ((W / 2 / 16384 : Nat) : Int) := by
    rw [Jvm.Kit.i64_div (by rw [hB]; omega), hB, Int.tdiv_eq_ediv_of_nonneg (by omega), hH]
    omega
  generalize H / (16384 : Int64) = q at *
  have hs : (q <<< ((1 : Int32) &&& 0x3f).toInt64).toInt = q.toInt * 2 ^ 1 := Jvm.Kit.i64_shl q _ (k := 1) (by decide) (by omega) (by omega)
  generalize q <<< ((1 : Int32) &&& 0x3f).toInt64 = q2 at *
  have hr : (w - q2 * (16384 : Int64)).toInt = (W : Int) - q2.toInt * 16384 := by
    rw [Int64.toInt_sub, Int64.toInt_mul, hB, Int.sub_bmod_bmod, Int.bmod_def]
    split at hW <;> omega
  generalize w - q2 * (16384 : Int64) = r at *
  have hrB : (r - (16384 : Int64)).toInt = r.toInt - 16384 := by rw [Jvm.Kit.i64_sub (by rw [hB]; omega) (by rw [hB]; omega), hB]
  have hn := own_not (r - (16384 : Int64))
  generalize (r - (16384 : Int64)) ^^^ (-1 : Int64) = y at *
  have hsh : (y >>> ((63 : Int32) &&& 0x3f).toInt64).toInt = y.toInt / 2 ^ 63 := Jvm.Kit.i64_shr y _ (k := 63) (by decide)
  generalize y >>> ((63 : Int32) &&& 0x3f).toInt64 = g at *
  by_cases hc : r.toInt < 16384
  · have hg : g = 0 := by rw [← Int64.toInt_inj, h0]; omega
    have ha : (0 : Int64) &&& (16384 : Int64) = 0 := by decide
    rw [hg, ha, Int64.sub_zero, ← Int64.toInt_inj, ← Int64.toInt_inj, hk, h0]
    split at hW <;> omega
  · have h1 : (-1 : Int64).toInt = -1 := rfl
    have hg : g = -1 := by rw [← Int64.toInt_inj, h1]; omega
    have ha : (-1 : Int64) &&& (16384 : Int64) = 16384 := by decide
    rw [hg, ha, ← Int64.toInt_inj, ← Int64.toInt_inj, hk, hrB, h0]
    split at hW <;> omega
theorem own_key32768 (w : Int64) : own_rem w (32768 : Int32).toInt64 = 0 ↔ w &&& own_mask 32768 = 0 := by
  have hb : ((32768 : Int32).toInt64) = (32768 : Int64) := by decide
  have hB : (32768 : Int64).toInt = 32768 := rfl
  have hm : own_mask 32768 = (32767 : Int64) := by decide
  have h0 : (0 : Int64).toInt = 0 := rfl
  have hk : (w &&& (32767 : Int64)).toInt = w.toInt % 2 ^ 15 := Jvm.Kit.i64_mask w 32767 (k := 15) (by decide) (by decide)
  have hW := own_toNat w
  have hlt := w.toBitVec.isLt
  have hH := own_lushr1 w
  rw [hb, hm, own_rem]
  generalize (w.toUInt64 >>> ((1 : Int32) &&& 0x3f).toInt64.toUInt64).toInt64 = H at *
  generalize w.toBitVec.toNat = W at *
  have hq : (H / (32768 : Int64)).toInt = ((W / 2 / 32768 : Nat) : Int) := by
    rw [Jvm.Kit.i64_div (by rw [hB]; omega), hB, Int.tdiv_eq_ediv_of_nonneg (by omega), hH]
    omega
  generalize H / (32768 : Int64) = q at *
  have hs : (q <<< ((1 : Int32) &&& 0x3f).toInt64).toInt = q.toInt * 2 ^ 1 := Jvm.Kit.i64_shl q _ (k := 1) (by decide) (by omega) (by omega)
  generalize q <<< ((1 : Int32) &&& 0x3f).toInt64 = q2 at *
  have hr : (w - q2 * (32768 : Int64)).toInt = (W : Int) - q2.toInt * 32768 := by
    rw [Int64.toInt_sub, Int64.toInt_mul, hB, Int.sub_bmod_bmod, Int.bmod_def]
    split at hW <;> omega
  generalize w - q2 * (32768 : Int64) = r at *
  have hrB : (r - (32768 : Int64)).toInt = r.toInt - 32768 := by rw [Jvm.Kit.i64_sub (by rw [hB]; omega) (by rw [hB]; omega), hB]
  have hn := own_not (r - (32768 : Int64))
  generalize (r - (32768 : Int64)) ^^^ (-1 : Int64) = y at *
  have hsh : (y >>> ((63 : Int32) &&& 0x3f).toInt64).toInt = y.toInt / 2 ^ 63 := Jvm.Kit.i64_shr y _ (k := 63) (by decide)
  generalize y >>> ((63 : Int32) &&& 0x3f).toInt64 = g at *
  by_cases hc : r.toInt < 32768
  · have hg : g = 0 := by rw [← Int64.toInt_inj, h0]; omega
    have ha : (0 : Int64) &&& (32768 : Int64) = 0 := by decide
    rw [hg, ha, Int64.sub_zero, ← Int64.toInt_inj, ← Int64.toInt_inj, hk, h0]
    split at hW <;> omega
  · have h1 : (-1 : Int64).toInt = -1 := rfl
    have hg : g = -1 := by rw [← Int64.toInt_inj, h1]; omega
    have ha : (-1 : Int64) &&& (32768 : Int64) = 32768 := by decide
    rw [hg, ha, ← Int64.toInt_inj, ← Int64.toInt_inj, hk, hrB, h0]
    split at hW <;> omega
theorem own_key65536 (w : Int64) : own_rem w (65536 : Int32).toInt64 = 0 ↔ w &&& own_mask 65536 = 0 := by
  have hb : ((65536 : Int32).toInt64) = (65536 : Int64) := by decide
  have hB : (65536 : Int64).toInt = 65536 := rfl
  have hm : own_mask 65536 = (65535 : Int64) := by decide
  have h0 : (0 : Int64).toInt = 0 := rfl
  have hk : (w &&& (65535 : Int64)).toInt = w.toInt % 2 ^ 16 := Jvm.Kit.i64_mask w 65535 (k := 16) (by decide) (by decide)
  have hW := own_toNat w
  have hlt := w.toBitVec.isLt
  have hH := own_lushr1 w
  rw [hb, hm, own_rem]
  generalize (w.toUInt64 >>> ((1 : Int32) &&& 0x3f).toInt64.toUInt64).toInt64 = H at *
  generalize w.toBitVec.toNat = W at *
  have hq : (H / (65536 : Int64)).toInt = ((W / 2 / 65536 : Nat) : Int) := by
    rw [Jvm.Kit.i64_div (by rw [hB]; omega), hB, Int.tdiv_eq_ediv_of_nonneg (by omega), hH]
    omega
  generalize H / (65536 : Int64) = q at *
  have hs : (q <<< ((1 : Int32) &&& 0x3f).toInt64).toInt = q.toInt * 2 ^ 1 := Jvm.Kit.i64_shl q _ (k := 1) (by decide) (by omega) (by omega)
  generalize q <<< ((1 : Int32) &&& 0x3f).toInt64 = q2 at *
  have hr : (w - q2 * (65536 : Int64)).toInt = (W : Int) - q2.toInt * 65536 := by
    rw [Int64.toInt_sub, Int64.toInt_mul, hB, Int.sub_bmod_bmod, Int.bmod_def]
    split at hW <;> omega
  generalize w - q2 * (65536 : Int64) = r at *
  have hrB : (r - (65536 : Int64)).toInt = r.toInt - 65536 := by rw [Jvm.Kit.i64_sub (by rw [hB]; omega) (by rw [hB]; omega), hB]
  have hn := own_not (r - (65536 : Int64))
  generalize (r - (65536 : Int64)) ^^^ (-1 : Int64) = y at *
  have hsh : (y >>> ((63 : Int32) &&& 0x3f).toInt64).toInt = y.toInt / 2 ^ 63 := Jvm.Kit.i64_shr y _ (k := 63) (by decide)
  generalize y >>> ((63 : Int32) &&& 0x3f).toInt64 = g at *
  by_cases hc : r.toInt < 65536
  · have hg : g = 0 := by rw [← Int64.toInt_inj, h0]; omega
    have ha : (0 : Int64) &&& (65536 : Int64) = 0 := by decide
    rw [hg, ha, Int64.sub_zero, ← Int64.toInt_inj, ← Int64.toInt_inj, hk, h0]
    split at hW <;> omega
  · have h1 : (-1 : Int64).toInt = -1 := rfl
    have hg : g = -1 := by rw [← Int64.toInt_inj, h1]; omega
    have ha : (-1 : Int64) &&& (65536 : Int64) = 65536 := by decide
    rw [hg, ha, ← Int64.toInt_inj, ← Int64.toInt_inj, hk, hrB, h0]
    split at hW <;> omega
theorem own_key (w : Int64) (p3 : Int32) : own_rem w (own_bs p3).toInt64 = 0 ↔ w &&& own_mask (own_bs p3) = 0 := by
  rcases own_bs_cases p3 with h | h | h | h | h | h | h <;> rw [h]
  · exact own_key1024 w
  · exact own_key2048 w
  · exact own_key4096 w
  · exact own_key8192 w
  · exact own_key16384 w
  · exact own_key32768 w
  · exact own_key65536 w
theorem own_back (a b : Int64) : (a + b) - a = b := by
  rw [Int64.add_comm, Int64.add_sub_cancel]
theorem own_plain (wr dd : Int64) (p3 : Int32) : own_end wr (own_ins wr dd) (own_bs p3) = own_ex (own_ab wr (own_mask (own_bs p3))) dd wr (own_ins wr dd) := by
  unfold own_end own_ex own_ab own_ins
  rw [own_back]
  by_cases h : wr &&& own_mask (own_bs p3) = 0
  · rw [if_pos ((own_key wr p3).mpr h), if_pos h, if_neg (show ¬ ((1 : Int32) = 0) by decide)]
  · rw [if_neg (fun q => h ((own_key wr p3).mp q)), if_neg h, if_pos rfl]
theorem pn_0 : plainName "com/example/lagwise/lagwise/postgresql/WalPositionsEndPinLaw" = true := by first | (simp [plainName, overriddenIn]; done) | decide +kernel
theorem ef_0 (m : MethodId) (x0 : Int64) (x1 : Int64) (x2 : Int32) (x3 : Int32) : entryFrame m #[(.long x0), (.long x1), (.int x2), (.int x3)] maxLocals = mkF m 0 #[.val (.long x0), .second, .val (.long x1), .second, .val (.int x2), .val (.int x3), .unset, .unset, .unset, .unset, .unset, .unset, .unset, .unset, .unset, .unset, .unset, .unset] [] := by first | (simp [entryFrame, mkF, argsToLocals, Value.category, maxLocals]; done) | rfl
def Q0 (Z : State) (p1 : Int64) (p2 : Int64) (p3 : Int32) (p4 : Int32) (h0 : Heap) (n0 : Nat) (v : Option Value) (h : Heap) (L : List Loc) : Prop := v = some (.int 1) ∧ Fr n0 L
set_option maxRecDepth 65536 in
set_option maxHeartbeats 40000000 in
theorem rm0 (l : Launch) (Z : State) (a0 : Array Value) (hw : ∀ d ∈ tables_1, d.before a0 Z = true) (ws : List Jvm.Cond) (p1 : Int64) (p2 : Int64) (p3 : Int32) (p4 : Int32) (h0 : Heap) (n0 : Nat) (Z0 : n0 ≤ h0.size) :
    MetFree l x (head1 (Jvm.Cond.code x code maxLocals ret :: ws) room_1) (fun a U => a = #[(.long p1), (.long p2), (.int p3), (.int p4)] ∧ Z.Warmed39 U.vm ∧ U.heap = h0) (fun _ _ _ _ _ => True) (fun _ U o U' => ∃ v L, o = .returned v ∧ Q0 Z p1 p2 p3 p4 h0 n0 v U'.heap L ∧ FrameEnd U o U' L room_1.cells room_1.slots) := by
  refine MetFree.of_bodySF (plainFor_of_name pn_0) hisR ?_
  intro p e s m args below meth c s₁ Bd hml0 hP hK
  obtain ⟨rfl, hZ, hh⟩ := hP
  have hx := Bd.exec
  have hby := Bd.bytes
  have hml : c.maxLocals = 18 := hml0
  have hown : s.vm.findClass "com/example/lagwise/lagwise/postgresql/WalPositionsEndPinLaw" = some m.cls := findClass_of_methodNamed Bd.named
  have hnm := (name_of_methodNamed Bd.named Bd.method).1
  have X0 : Stand p l e room_1 s m #[(.long p1), (.long p2), (.int p3), (.int p4)] below meth c s₁ [] 0 0 := Stand.of_body Bd
  have e0 : s₁.heap = h0 := by rw [← hh, Bd.state]; rfl
  have N0 := Fr.nil n0
  have pre0 : ∀ t, Steps p.tables e below (s₁.setTop (mkF m 0 #[.val (.long p1), .second, .val (.long p2), .second, .val (.int p3), .val (.int p4), .unset, .unset, .unset, .unset, .unset, .unset, .unset, .unset, .unset, .unset, .unset, .unset] [])) t → Steps p.tables e below (s₁.setTop (entryFrame m #[(.long p1), (.long p2), (.int p3), (.int p4)] maxLocals)) t := fun t k => castTop (ef_0 m p1 p2 p3 p4) k
  obtain ⟨bs, e_bs⟩ : ∃ z : Int32, z = own_bs p3 := ⟨_, rfl⟩
  obtain ⟨mask, e_mask⟩ : ∃ z : Int64, z = own_mask bs := ⟨_, rfl⟩
  obtain ⟨wr, e_wr⟩ : ∃ z : Int64, z = own_wr p1 mask p4 := ⟨_, rfl⟩
  obtain ⟨dd, e_dd⟩ : ∃ z : Int64, z = own_dd p2 p4 := ⟨_, rfl⟩
  obtain ⟨ins, e_ins⟩ : ∃ z : Int64, z = own_ins wr dd := ⟨_, rfl⟩
  obtain ⟨ab, e_ab⟩ : ∃ z : Int32, z = own_ab wr mask := ⟨_, rfl⟩
  obtain ⟨ex, e_ex⟩ : ∃ z : Int64, z = own_ex ab dd wr ins := ⟨_, rfl⟩
  have hpos : ¬ bs.toInt64 < 0 := by rw [e_bs]; exact (own_bs_ok p3).1
  have hnz : ¬ bs.toInt64 = 0 := by rw [e_bs]; exact (own_bs_ok p3).2
  obtain ⟨_, _, ⟨T3, L3, k3, n3⟩, -, X3, ⟨Lc3, hQ3, l3, y3, z3⟩, st3⟩ := Jvm.LawKit.callS X0 hx (y := (⟨"com/example/lagwise/lagwise/postgresql/WalPositions", "end", "(JJI)J"⟩ : MethodName)) hown (mvT hZ (hw _ (List.mem_of_getElem? (i := 4) rfl))) (mvT hZ (hw _ (List.mem_of_getElem? (i := 5) rfl))) (mvT hZ (hw _ (List.mem_of_getElem? (i := 6) rfl))) (mvT hZ (hw _ (List.mem_of_getElem? (i := 7) rfl))) (by decide) (backOf (W := 0) (rm1 l Z a0 hw [] wr ins bs h0 n0 Z0 hpos hnz) hZ (hw _ (List.mem_of_getElem? (i := 7) rfl)) (hw _ (List.mem_of_getElem? (i := 6) rfl)) (by decide) (by decide)) (g := (mkF m 115 #[.val (.long p1), .second, .val (.long p2), .second, .val (.int p3), .val (.int p4), .val (.int bs), .val (.long mask), .second, .val (.long wr), .second, .val (.long dd), .second, .val (.long ins), .second, .val (.int ab), .val (.long ex), .second] [(.int bs), (.long ins), (.long wr)])) rfl (by rw [hml]; rfl) (argsL := [(.long wr), (.long ins), (.int bs)]) (rest := []) (lenOf pd_1 rfl) rfl (by show 2 * 0 + _ ≤ _; exact Nat.le_of_eq rfl) (hb hby at_115) (fun _ _ => ⟨rfl, e0, (by decide : 0 + 0 ≤ _), (by decide : 0 + 0 ≤ _)⟩)
  dsimp only [Pt.U, Pt.locs, Pt.cells, Pt.slots] at X3 l3 y3 z3 st3 hQ3
  subst l3 y3 z3
  obtain ⟨rfl, N3q, e3⟩ := hQ3
  have N3 := Fr.app N0 N3q
  have hfin : own_end wr ins bs = ex := by rw [e_ex, e_ab, e_ins, e_mask, e_bs]; exact own_plain wr dd p3
  obtain ⟨fs, hr, hrun, hended, hW, hsame⟩ := X3.leave (v := some (.int (1 : Int32))) (fun h => by rw [Bd.returns] at h; cases h)
  refine ⟨_, _, pre0 _ ?_, hrun, hended, _, _, rfl, ?_, ⟨_, rfl⟩, hW, hsame.mono (by decide) (by decide)⟩
  ·
    show Steps p.tables e below (s₁.setTop (mkF m 0 #[.val (.long p1), .second, .val (.long p2), .second, .val (.int p3), .val (.int p4), .unset, .unset, .unset, .unset, .unset, .unset, .unset, .unset, .unset, .unset, .unset, .unset] [])) _
    refine XS.sipush X0.here hx rfl (hb hby at_0) ?_
    show Steps p.tables e below (s₁.setTop (mkF m 3 #[.val (.long p1), .second, .val (.long p2), .second, .val (.int p3), .val (.int p4), .unset, .unset, .unset, .unset, .unset, .unset, .unset, .unset, .unset, .unset, .unset, .unset] [(.int (1024 : Int32))])) _
    refine XS.iload X0.here hx rfl (hb hby at_3) rfl ?_
    show Steps p.tables e below (s₁.setTop (mkF m 5 #[.val (.long p1), .second, .val (.long p2), .second, .val (.int p3), .val (.int p4), .unset, .unset, .unset, .unset, .unset, .unset, .unset, .unset, .unset, .unset, .unset, .unset] [(.int p3), (.int (1024 : Int32))])) _
    refine X0.ldcInt hx hown (mvT hZ (hw _ (List.mem_of_getElem? (i := 0) rfl))) (g := (mkF m 5 #[.val (.long p1), .second, .val (.long p2), .second, .val (.int p3), .val (.int p4), .unset, .unset, .unset, .unset, .unset, .unset, .unset, .unset, .unset, .unset, .unset, .unset] [(.int p3), (.int (1024 : Int32))])) rfl (hb hby at_5) _ ?_
    show Steps p.tables e below (s₁.setTop (mkF m 7 #[.val (.long p1), .second, .val (.long p2), .second, .val (.int p3), .val (.int p4), .unset, .unset, .unset, .unset, .unset, .unset, .unset, .unset, .unset, .unset, .unset, .unset] [(.int (2147483647 : Int32)), (.int p3), (.int (1024 : Int32))])) _
    refine XS.iand X0.here hx rfl (hb hby at_7) rfl ?_
    show Steps p.tables e below (s₁.setTop (mkF m 8 #[.val (.long p1), .second, .val (.long p2), .second, .val (.int p3), .val (.int p4), .unset, .unset, .unset, .unset, .unset, .unset, .unset, .unset, .unset, .unset, .unset, .unset] [(.int (p3 &&& (2147483647 : Int32))), (.int (1024 : Int32))])) _
    refine XS.bipush X0.here hx rfl (hb hby at_8) ?_
    show Steps p.tables e below (s₁.setTop (mkF m 10 #[.val (.long p1), .second, .val (.long p2), .second, .val (.int p3), .val (.int p4), .unset, .unset, .unset, .unset, .unset, .unset, .unset, .unset, .unset, .unset, .unset, .unset] [(.int (7 : Int32)), (.int (p3 &&& (2147483647 : Int32))), (.int (1024 : Int32))])) _
    refine XS.irem X0.here hx rfl (hb hby at_10) rfl (by decide) ?_
    show Steps p.tables e below (s₁.setTop (mkF m 11 #[.val (.long p1), .second, .val (.long p2), .second, .val (.int p3), .val (.int p4), .unset, .unset, .unset, .unset, .unset, .unset, .unset, .unset, .unset, .unset, .unset, .unset] [(.int ((p3 &&& (2147483647 : Int32)) - ((p3 &&& (2147483647 : Int32)) / (7 : Int32)) * (7 : Int32))), (.int (1024 : Int32))])) _
    refine XS.ishl X0.here hx rfl (hb hby at_11) rfl ?_
    show Steps p.tables e below (s₁.setTop (mkF m 12 #[.val (.long p1), .second, .val (.long p2), .second, .val (.int p3), .val (.int p4), .unset, .unset, .unset, .unset, .unset, .unset, .unset, .unset, .unset, .unset, .unset, .unset] [(.int ((1024 : Int32) <<< (((p3 &&& (2147483647 : Int32)) - ((p3 &&& (2147483647 : Int32)) / (7 : Int32)) * (7 : Int32)) &&& 31)))])) _
    refine XS.istore X0.here hx rfl (hb hby at_12) rfl (l' := #[.val (.long p1), .second, .val (.long p2), .second, .val (.int p3), .val (.int p4), .val (.int bs), .unset, .unset, .unset, .unset, .unset, .unset, .unset, .unset, .unset, .unset, .unset]) (by rw [e_bs]; rfl) ?_
    show Steps p.tables e below (s₁.setTop (mkF m 14 #[.val (.long p1), .second, .val (.long p2), .second, .val (.int p3), .val (.int p4), .val (.int bs), .unset, .unset, .unset, .unset, .unset, .unset, .unset, .unset, .unset, .unset, .unset] [])) _
    refine XS.iload X0.here hx rfl (hb hby at_14) rfl ?_
    show Steps p.tables e below (s₁.setTop (mkF m 16 #[.val (.long p1), .second, .val (.long p2), .second, .val (.int p3), .val (.int p4), .val (.int bs), .unset, .unset, .unset, .unset, .unset, .unset, .unset, .unset, .unset, .unset, .unset] [(.int bs)])) _
    refine XS.i2l X0.here hx rfl (hb hby at_16) rfl ?_
    show Steps p.tables e below (s₁.setTop (mkF m 17 #[.val (.long p1), .second, .val (.long p2), .second, .val (.int p3), .val (.int p4), .val (.int bs), .unset, .unset, .unset, .unset, .unset, .unset, .unset, .unset, .unset, .unset, .unset] [(.long (bs.toInt64))])) _
    refine XS.lconst X0.here hx rfl (hb hby at_17) ?_
    show Steps p.tables e below (s₁.setTop (mkF m 18 #[.val (.long p1), .second, .val (.long p2), .second, .val (.int p3), .val (.int p4), .val (.int bs), .unset, .unset, .unset, .unset, .unset, .unset, .unset, .unset, .unset, .unset, .unset] [(.long (1 : Int64)), (.long (bs.toInt64))])) _
    refine XS.lsub X0.here hx rfl (hb hby at_18) rfl ?_
    show Steps p.tables e below (s₁.setTop (mkF m 19 #[.val (.long p1), .second, .val (.long p2), .second, .val (.int p3), .val (.int p4), .val (.int bs), .unset, .unset, .unset, .unset, .unset, .unset, .unset, .unset, .unset, .unset, .unset] [(.long ((bs.toInt64) - (1 : Int64)))])) _
    refine XS.lstore X0.here hx rfl (hb hby at_19) rfl (l' := #[.val (.long p1), .second, .val (.long p2), .second, .val (.int p3), .val (.int p4), .val (.int bs), .val (.long mask), .second, .unset, .unset, .unset, .unset, .unset, .unset, .unset, .unset, .unset]) (by rw [e_mask]; rfl) ?_
    have sg21 : ∀ t, Steps p.tables e below (s₁.setTop (mkF m 42 #[.val (.long p1), .second, .val (.long p2), .second, .val (.int p3), .val (.int p4), .val (.int bs), .val (.long mask), .second, .val (.long wr), .second, .unset, .unset, .unset, .unset, .unset, .unset, .unset] [])) t → Steps p.tables e below (s₁.setTop (mkF m 21 #[.val (.long p1), .second, .val (.long p2), .second, .val (.int p3), .val (.int p4), .val (.int bs), .val (.long mask), .second, .unset, .unset, .unset, .unset, .unset, .unset, .unset, .unset, .unset] [])) t := by
      intro t kt
      show Steps p.tables e below (s₁.setTop (mkF m 21 #[.val (.long p1), .second, .val (.long p2), .second, .val (.int p3), .val (.int p4), .val (.int bs), .val (.long mask), .second, .unset, .unset, .unset, .unset, .unset, .unset, .unset, .unset, .unset] [])) _
      refine XS.iload X0.here hx rfl (hb hby at_21) rfl ?_
      show Steps p.tables e below (s₁.setTop (mkF m 23 #[.val (.long p1), .second, .val (.long p2), .second, .val (.int p3), .val (.int p4), .val (.int bs), .val (.long mask), .second, .unset, .unset, .unset, .unset, .unset, .unset, .unset, .unset, .unset] [(.int p4)])) _
      refine XS.iconst X0.here hx rfl (hb hby at_23) ?_
      show Steps p.tables e below (s₁.setTop (mkF m 24 #[.val (.long p1), .second, .val (.long p2), .second, .val (.int p3), .val (.int p4), .val (.int bs), .val (.long mask), .second, .unset, .unset, .unset, .unset, .unset, .unset, .unset, .unset, .unset] [(.int (1 : Int32)), (.int p4)])) _
      refine XS.iand X0.here hx rfl (hb hby at_24) rfl ?_
      by_cases c21_0 : (p4 &&& (1 : Int32)) = (0 : Int32)
      · show Steps p.tables e below (s₁.setTop (mkF m 25 #[.val (.long p1), .second, .val (.long p2), .second, .val (.int p3), .val (.int p4), .val (.int bs), .val (.long mask), .second, .unset, .unset, .unset, .unset, .unset, .unset, .unset, .unset, .unset] [(.int (p4 &&& (1 : Int32)))])) _
        refine XS.ifYes X0.here hx rfl (pc0 := 25) (pc' := 39) rfl (hb hby at_25) rfl ((if0 _ _).trans (teq c21_0).1) (by decide) (by decide) ?_
        show Steps p.tables e below (s₁.setTop (mkF m 39 #[.val (.long p1), .second, .val (.long p2), .second, .val (.int p3), .val (.int p4), .val (.int bs), .val (.long mask), .second, .unset, .unset, .unset, .unset, .unset, .unset, .unset, .unset, .unset] [])) _
        refine XS.lloadN X0.here hx rfl (hb hby at_39) rfl ?_
        have e_wr_t : wr = p1 := e_wr.trans (by rw [own_wr, if_pos c21_0])
        show Steps p.tables e below (s₁.setTop (mkF m 40 #[.val (.long p1), .second, .val (.long p2), .second, .val (.int p3), .val (.int p4), .val (.int bs), .val (.long mask), .second, .unset, .unset, .unset, .unset, .unset, .unset, .unset, .unset, .unset] [(.long p1)])) _
        refine XS.lstore X0.here hx rfl (hb hby at_40) rfl (l' := #[.val (.long p1), .second, .val (.long p2), .second, .val (.int p3), .val (.int p4), .val (.int bs), .val (.long mask), .second, .val (.long wr), .second, .unset, .unset, .unset, .unset, .unset, .unset, .unset]) (by rw [e_wr_t]; rfl) ?_
        show Steps p.tables e below (s₁.setTop (mkF m 42 #[.val (.long p1), .second, .val (.long p2), .second, .val (.int p3), .val (.int p4), .val (.int bs), .val (.long mask), .second, .val (.long wr), .second, .unset, .unset, .unset, .unset, .unset, .unset, .unset] [])) _
        exact kt
      · show Steps p.tables e below (s₁.setTop (mkF m 25 #[.val (.long p1), .second, .val (.long p2), .second, .val (.int p3), .val (.int p4), .val (.int bs), .val (.long mask), .second, .unset, .unset, .unset, .unset, .unset, .unset, .unset, .unset, .unset] [(.int (p4 &&& (1 : Int32)))])) _
        refine XS.ifNo X0.here hx rfl (hb hby at_25) rfl ((if0 _ _).trans (feq c21_0).1) ?_
        show Steps p.tables e below (s₁.setTop (mkF m 28 #[.val (.long p1), .second, .val (.long p2), .second, .val (.int p3), .val (.int p4), .val (.int bs), .val (.long mask), .second, .unset, .unset, .unset, .unset, .unset, .unset, .unset, .unset, .unset] [])) _
        refine XS.lloadN X0.here hx rfl (hb hby at_28) rfl ?_
        show Steps p.tables e below (s₁.setTop (mkF m 29 #[.val (.long p1), .second, .val (.long p2), .second, .val (.int p3), .val (.int p4), .val (.int bs), .val (.long mask), .second, .unset, .unset, .unset, .unset, .unset, .unset, .unset, .unset, .unset] [(.long p1)])) _
        refine XS.lload X0.here hx rfl (hb hby at_29) rfl ?_
        show Steps p.tables e below (s₁.setTop (mkF m 31 #[.val (.long p1), .second, .val (.long p2), .second, .val (.int p3), .val (.int p4), .val (.int bs), .val (.long mask), .second, .unset, .unset, .unset, .unset, .unset, .unset, .unset, .unset, .unset] [(.long mask), (.long p1)])) _
        refine X0.ldc2Long hx hown (mvT hZ (hw _ (List.mem_of_getElem? (i := 1) rfl))) (g := (mkF m 31 #[.val (.long p1), .second, .val (.long p2), .second, .val (.int p3), .val (.int p4), .val (.int bs), .val (.long mask), .second, .unset, .unset, .unset, .unset, .unset, .unset, .unset, .unset, .unset] [(.long mask), (.long p1)])) rfl (hb hby at_31) _ ?_
        show Steps p.tables e below (s₁.setTop (mkF m 34 #[.val (.long p1), .second, .val (.long p2), .second, .val (.int p3), .val (.int p4), .val (.int bs), .val (.long mask), .second, .unset, .unset, .unset, .unset, .unset, .unset, .unset, .unset, .unset] [(.long (-1 : Int64)), (.long mask), (.long p1)])) _
        refine XS.lxor X0.here hx rfl (hb hby at_34) rfl ?_
        show Steps p.tables e below (s₁.setTop (mkF m 35 #[.val (.long p1), .second, .val (.long p2), .second, .val (.int p3), .val (.int p4), .val (.int bs), .val (.long mask), .second, .unset, .unset, .unset, .unset, .unset, .unset, .unset, .unset, .unset] [(.long (mask ^^^ (-1 : Int64))), (.long p1)])) _
        refine XS.land X0.here hx rfl (hb hby at_35) rfl ?_
        show Steps p.tables e below (s₁.setTop (mkF m 36 #[.val (.long p1), .second, .val (.long p2), .second, .val (.int p3), .val (.int p4), .val (.int bs), .val (.long mask), .second, .unset, .unset, .unset, .unset, .unset, .unset, .unset, .unset, .unset] [(.long (p1 &&& (mask ^^^ (-1 : Int64))))])) _
        refine XS.goto X0.here hx rfl (pc0 := 36) (pc' := 40) rfl (hb hby at_36) (by decide) (by decide) ?_
        have e_wr_f : wr = (p1 &&& (mask ^^^ (-1 : Int64))) := e_wr.trans (by rw [own_wr, if_neg c21_0])
        show Steps p.tables e below (s₁.setTop (mkF m 40 #[.val (.long p1), .second, .val (.long p2), .second, .val (.int p3), .val (.int p4), .val (.int bs), .val (.long mask), .second, .unset, .unset, .unset, .unset, .unset, .unset, .unset, .unset, .unset] [(.long (p1 &&& (mask ^^^ (-1 : Int64))))])) _
        refine XS.lstore X0.here hx rfl (hb hby at_40) rfl (l' := #[.val (.long p1), .second, .val (.long p2), .second, .val (.int p3), .val (.int p4), .val (.int bs), .val (.long mask), .second, .val (.long wr), .second, .unset, .unset, .unset, .unset, .unset, .unset, .unset]) (by rw [e_wr_f]; rfl) ?_
        show Steps p.tables e below (s₁.setTop (mkF m 42 #[.val (.long p1), .second, .val (.long p2), .second, .val (.int p3), .val (.int p4), .val (.int bs), .val (.long mask), .second, .val (.long wr), .second, .unset, .unset, .unset, .unset, .unset, .unset, .unset] [])) _
        exact kt
    refine sg21 _ ?_
    have sg42 : ∀ t, Steps p.tables e below (s₁.setTop (mkF m 62 #[.val (.long p1), .second, .val (.long p2), .second, .val (.int p3), .val (.int p4), .val (.int bs), .val (.long mask), .second, .val (.long wr), .second, .val (.long dd), .second, .unset, .unset, .unset, .unset, .unset] [])) t → Steps p.tables e below (s₁.setTop (mkF m 42 #[.val (.long p1), .second, .val (.long p2), .second, .val (.int p3), .val (.int p4), .val (.int bs), .val (.long mask), .second, .val (.long wr), .second, .unset, .unset, .unset, .unset, .unset, .unset, .unset] [])) t := by
      intro t kt
      show Steps p.tables e below (s₁.setTop (mkF m 42 #[.val (.long p1), .second, .val (.long p2), .second, .val (.int p3), .val (.int p4), .val (.int bs), .val (.long mask), .second, .val (.long wr), .second, .unset, .unset, .unset, .unset, .unset, .unset, .unset] [])) _
      refine XS.iload X0.here hx rfl (hb hby at_42) rfl ?_
      show Steps p.tables e below (s₁.setTop (mkF m 44 #[.val (.long p1), .second, .val (.long p2), .second, .val (.int p3), .val (.int p4), .val (.int bs), .val (.long mask), .second, .val (.long wr), .second, .unset, .unset, .unset, .unset, .unset, .unset, .unset] [(.int p4)])) _
      refine XS.iconst X0.here hx rfl (hb hby at_44) ?_
      show Steps p.tables e below (s₁.setTop (mkF m 45 #[.val (.long p1), .second, .val (.long p2), .second, .val (.int p3), .val (.int p4), .val (.int bs), .val (.long mask), .second, .val (.long wr), .second, .unset, .unset, .unset, .unset, .unset, .unset, .unset] [(.int (2 : Int32)), (.int p4)])) _
      refine XS.iand X0.here hx rfl (hb hby at_45) rfl ?_
      by_cases c42_0 : (p4 &&& (2 : Int32)) = (0 : Int32)
      · show Steps p.tables e below (s₁.setTop (mkF m 46 #[.val (.long p1), .second, .val (.long p2), .second, .val (.int p3), .val (.int p4), .val (.int bs), .val (.long mask), .second, .val (.long wr), .second, .unset, .unset, .unset, .unset, .unset, .unset, .unset] [(.int (p4 &&& (2 : Int32)))])) _
        refine XS.ifYes X0.here hx rfl (pc0 := 46) (pc' := 57) rfl (hb hby at_46) rfl ((if0 _ _).trans (teq c42_0).1) (by decide) (by decide) ?_
        show Steps p.tables e below (s₁.setTop (mkF m 57 #[.val (.long p1), .second, .val (.long p2), .second, .val (.int p3), .val (.int p4), .val (.int bs), .val (.long mask), .second, .val (.long wr), .second, .unset, .unset, .unset, .unset, .unset, .unset, .unset] [])) _
        refine XS.lloadN X0.here hx rfl (hb hby at_57) rfl ?_
        show Steps p.tables e below (s₁.setTop (mkF m 58 #[.val (.long p1), .second, .val (.long p2), .second, .val (.int p3), .val (.int p4), .val (.int bs), .val (.long mask), .second, .val (.long wr), .second, .unset, .unset, .unset, .unset, .unset, .unset, .unset] [(.long p2)])) _
        refine XS.iconst X0.here hx rfl (hb hby at_58) ?_
        show Steps p.tables e below (s₁.setTop (mkF m 59 #[.val (.long p1), .second, .val (.long p2), .second, .val (.int p3), .val (.int p4), .val (.int bs), .val (.long mask), .second, .val (.long wr), .second, .unset, .unset, .unset, .unset, .unset, .unset, .unset] [(.int (1 : Int32)), (.long p2)])) _
        refine XS.lushr X0.here hx rfl (hb hby at_59) rfl ?_
        have e_dd_t : dd = ((p2.toUInt64 >>> ((1 : Int32) &&& 0x3f).toInt64.toUInt64).toInt64) := e_dd.trans (by rw [own_dd, if_pos c42_0])
        show Steps p.tables e below (s₁.setTop (mkF m 60 #[.val (.long p1), .second, .val (.long p2), .second, .val (.int p3), .val (.int p4), .val (.int bs), .val (.long mask), .second, .val (.long wr), .second, .unset, .unset, .unset, .unset, .unset, .unset, .unset] [(.long ((p2.toUInt64 >>> ((1 : Int32) &&& 0x3f).toInt64.toUInt64).toInt64))])) _
        refine XS.lstore X0.here hx rfl (hb hby at_60) rfl (l' := #[.val (.long p1), .second, .val (.long p2), .second, .val (.int p3), .val (.int p4), .val (.int bs), .val (.long mask), .second, .val (.long wr), .second, .val (.long dd), .second, .unset, .unset, .unset, .unset, .unset]) (by rw [e_dd_t]; rfl) ?_
        show Steps p.tables e below (s₁.setTop (mkF m 62 #[.val (.long p1), .second, .val (.long p2), .second, .val (.int p3), .val (.int p4), .val (.int bs), .val (.long mask), .second, .val (.long wr), .second, .val (.long dd), .second, .unset, .unset, .unset, .unset, .unset] [])) _
        exact kt
      · show Steps p.tables e below (s₁.setTop (mkF m 46 #[.val (.long p1), .second, .val (.long p2), .second, .val (.int p3), .val (.int p4), .val (.int bs), .val (.long mask), .second, .val (.long wr), .second, .unset, .unset, .unset, .unset, .unset, .unset, .unset] [(.int (p4 &&& (2 : Int32)))])) _
        refine XS.ifNo X0.here hx rfl (hb hby at_46) rfl ((if0 _ _).trans (feq c42_0).1) ?_
        show Steps p.tables e below (s₁.setTop (mkF m 49 #[.val (.long p1), .second, .val (.long p2), .second, .val (.int p3), .val (.int p4), .val (.int bs), .val (.long mask), .second, .val (.long wr), .second, .unset, .unset, .unset, .unset, .unset, .unset, .unset] [])) _
        refine XS.lloadN X0.here hx rfl (hb hby at_49) rfl ?_
        show Steps p.tables e below (s₁.setTop (mkF m 50 #[.val (.long p1), .second, .val (.long p2), .second, .val (.int p3), .val (.int p4), .val (.int bs), .val (.long mask), .second, .val (.long wr), .second, .unset, .unset, .unset, .unset, .unset, .unset, .unset] [(.long p2)])) _
        refine X0.ldc2Long hx hown (mvT hZ (hw _ (List.mem_of_getElem? (i := 2) rfl))) (g := (mkF m 50 #[.val (.long p1), .second, .val (.long p2), .second, .val (.int p3), .val (.int p4), .val (.int bs), .val (.long mask), .second, .val (.long wr), .second, .unset, .unset, .unset, .unset, .unset, .unset, .unset] [(.long p2)])) rfl (hb hby at_50) _ ?_
        show Steps p.tables e below (s₁.setTop (mkF m 53 #[.val (.long p1), .second, .val (.long p2), .second, .val (.int p3), .val (.int p4), .val (.int bs), .val (.long mask), .second, .val (.long wr), .second, .unset, .unset, .unset, .unset, .unset, .unset, .unset] [(.long (63 : Int64)), (.long p2)])) _
        refine XS.land X0.here hx rfl (hb hby at_53) rfl ?_
        show Steps p.tables e below (s₁.setTop (mkF m 54 #[.val (.long p1), .second, .val (.long p2), .second, .val (.int p3), .val (.int p4), .val (.int bs), .val (.long mask), .second, .val (.long wr), .second, .unset, .unset, .unset, .unset, .unset, .unset, .unset] [(.long (p2 &&& (63 : Int64)))])) _
        refine XS.goto X0.here hx rfl (pc0 := 54) (pc' := 60) rfl (hb hby at_54) (by decide) (by decide) ?_
        have e_dd_f : dd = (p2 &&& (63 : Int64)) := e_dd.trans (by rw [own_dd, if_neg c42_0])
        show Steps p.tables e below (s₁.setTop (mkF m 60 #[.val (.long p1), .second, .val (.long p2), .second, .val (.int p3), .val (.int p4), .val (.int bs), .val (.long mask), .second, .val (.long wr), .second, .unset, .unset, .unset, .unset, .unset, .unset, .unset] [(.long (p2 &&& (63 : Int64)))])) _
        refine XS.lstore X0.here hx rfl (hb hby at_60) rfl (l' := #[.val (.long p1), .second, .val (.long p2), .second, .val (.int p3), .val (.int p4), .val (.int bs), .val (.long mask), .second, .val (.long wr), .second, .val (.long dd), .second, .unset, .unset, .unset, .unset, .unset]) (by rw [e_dd_f]; rfl) ?_
        show Steps p.tables e below (s₁.setTop (mkF m 62 #[.val (.long p1), .second, .val (.long p2), .second, .val (.int p3), .val (.int p4), .val (.int bs), .val (.long mask), .second, .val (.long wr), .second, .val (.long dd), .second, .unset, .unset, .unset, .unset, .unset] [])) _
        exact kt
    refine sg42 _ ?_
    show Steps p.tables e below (s₁.setTop (mkF m 62 #[.val (.long p1), .second, .val (.long p2), .second, .val (.int p3), .val (.int p4), .val (.int bs), .val (.long mask), .second, .val (.long wr), .second, .val (.long dd), .second, .unset, .unset, .unset, .unset, .unset] [])) _
    refine XS.lload X0.here hx rfl (hb hby at_62) rfl ?_
    show Steps p.tables e below (s₁.setTop (mkF m 64 #[.val (.long p1), .second, .val (.long p2), .second, .val (.int p3), .val (.int p4), .val (.int bs), .val (.long mask), .second, .val (.long wr), .second, .val (.long dd), .second, .unset, .unset, .unset, .unset, .unset] [(.long wr)])) _
    refine XS.lload X0.here hx rfl (hb hby at_64) rfl ?_
    show Steps p.tables e below (s₁.setTop (mkF m 66 #[.val (.long p1), .second, .val (.long p2), .second, .val (.int p3), .val (.int p4), .val (.int bs), .val (.long mask), .second, .val (.long wr), .second, .val (.long dd), .second, .unset, .unset, .unset, .unset, .unset] [(.long dd), (.long wr)])) _
    refine XS.ladd X0.here hx rfl (hb hby at_66) rfl ?_
    show Steps p.tables e below (s₁.setTop (mkF m 67 #[.val (.long p1), .second, .val (.long p2), .second, .val (.int p3), .val (.int p4), .val (.int bs), .val (.long mask), .second, .val (.long wr), .second, .val (.long dd), .second, .unset, .unset, .unset, .unset, .unset] [(.long (wr + dd))])) _
    refine XS.lstore X0.here hx rfl (hb hby at_67) rfl (l' := #[.val (.long p1), .second, .val (.long p2), .second, .val (.int p3), .val (.int p4), .val (.int bs), .val (.long mask), .second, .val (.long wr), .second, .val (.long dd), .second, .val (.long ins), .second, .unset, .unset, .unset]) (by rw [e_ins]; rfl) ?_
    have sg69 : ∀ t, Steps p.tables e below (s₁.setTop (mkF m 86 #[.val (.long p1), .second, .val (.long p2), .second, .val (.int p3), .val (.int p4), .val (.int bs), .val (.long mask), .second, .val (.long wr), .second, .val (.long dd), .second, .val (.long ins), .second, .val (.int ab), .unset, .unset] [])) t → Steps p.tables e below (s₁.setTop (mkF m 69 #[.val (.long p1), .second, .val (.long p2), .second, .val (.int p3), .val (.int p4), .val (.int bs), .val (.long mask), .second, .val (.long wr), .second, .val (.long dd), .second, .val (.long ins), .second, .unset, .unset, .unset] [])) t := by
      intro t kt
      show Steps p.tables e below (s₁.setTop (mkF m 69 #[.val (.long p1), .second, .val (.long p2), .second, .val (.int p3), .val (.int p4), .val (.int bs), .val (.long mask), .second, .val (.long wr), .second, .val (.long dd), .second, .val (.long ins), .second, .unset, .unset, .unset] [])) _
      refine XS.lload X0.here hx rfl (hb hby at_69) rfl ?_
      show Steps p.tables e below (s₁.setTop (mkF m 71 #[.val (.long p1), .second, .val (.long p2), .second, .val (.int p3), .val (.int p4), .val (.int bs), .val (.long mask), .second, .val (.long wr), .second, .val (.long dd), .second, .val (.long ins), .second, .unset, .unset, .unset] [(.long wr)])) _
      refine XS.lload X0.here hx rfl (hb hby at_71) rfl ?_
      show Steps p.tables e below (s₁.setTop (mkF m 73 #[.val (.long p1), .second, .val (.long p2), .second, .val (.int p3), .val (.int p4), .val (.int bs), .val (.long mask), .second, .val (.long wr), .second, .val (.long dd), .second, .val (.long ins), .second, .unset, .unset, .unset] [(.long mask), (.long wr)])) _
      refine XS.land X0.here hx rfl (hb hby at_73) rfl ?_
      show Steps p.tables e below (s₁.setTop (mkF m 74 #[.val (.long p1), .second, .val (.long p2), .second, .val (.int p3), .val (.int p4), .val (.int bs), .val (.long mask), .second, .val (.long wr), .second, .val (.long dd), .second, .val (.long ins), .second, .unset, .unset, .unset] [(.long (wr &&& mask))])) _
      refine XS.lconst X0.here hx rfl (hb hby at_74) ?_
      show Steps p.tables e below (s₁.setTop (mkF m 75 #[.val (.long p1), .second, .val (.long p2), .second, .val (.int p3), .val (.int p4), .val (.int bs), .val (.long mask), .second, .val (.long wr), .second, .val (.long dd), .second, .val (.long ins), .second, .unset, .unset, .unset] [(.long (0 : Int64)), (.long (wr &&& mask))])) _
      refine XS.lcmp X0.here hx rfl (hb hby at_75) rfl ?_
      by_cases c69_0 : (wr &&& mask) = (0 : Int64)
      · show Steps p.tables e below (s₁.setTop (mkF m 76 #[.val (.long p1), .second, .val (.long p2), .second, .val (.int p3), .val (.int p4), .val (.int bs), .val (.long mask), .second, .val (.long wr), .second, .val (.long dd), .second, .val (.long ins), .second, .unset, .unset, .unset] [(.int (lcmpW (wr &&& mask) (0 : Int64)))])) _
        refine XS.ifNo X0.here hx rfl (hb hby at_76) rfl ((if0 _ _).trans (teq ((lw_eq _ _).mpr c69_0)).2) ?_
        show Steps p.tables e below (s₁.setTop (mkF m 79 #[.val (.long p1), .second, .val (.long p2), .second, .val (.int p3), .val (.int p4), .val (.int bs), .val (.long mask), .second, .val (.long wr), .second, .val (.long dd), .second, .val (.long ins), .second, .unset, .unset, .unset] [])) _
        refine XS.iconst X0.here hx rfl (hb hby at_79) ?_
        show Steps p.tables e below (s₁.setTop (mkF m 80 #[.val (.long p1), .second, .val (.long p2), .second, .val (.int p3), .val (.int p4), .val (.int bs), .val (.long mask), .second, .val (.long wr), .second, .val (.long dd), .second, .val (.long ins), .second, .unset, .unset, .unset] [(.int (1 : Int32))])) _
        refine XS.goto X0.here hx rfl (pc0 := 80) (pc' := 84) rfl (hb hby at_80) (by decide) (by decide) ?_
        have e_ab_t : ab = (1 : Int32) := e_ab.trans (by rw [own_ab, if_pos c69_0])
        show Steps p.tables e below (s₁.setTop (mkF m 84 #[.val (.long p1), .second, .val (.long p2), .second, .val (.int p3), .val (.int p4), .val (.int bs), .val (.long mask), .second, .val (.long wr), .second, .val (.long dd), .second, .val (.long ins), .second, .unset, .unset, .unset] [(.int (1 : Int32))])) _
        refine XS.istore X0.here hx rfl (hb hby at_84) rfl (l' := #[.val (.long p1), .second, .val (.long p2), .second, .val (.int p3), .val (.int p4), .val (.int bs), .val (.long mask), .second, .val (.long wr), .second, .val (.long dd), .second, .val (.long ins), .second, .val (.int ab), .unset, .unset]) (by rw [e_ab_t]; rfl) ?_
        show Steps p.tables e below (s₁.setTop (mkF m 86 #[.val (.long p1), .second, .val (.long p2), .second, .val (.int p3), .val (.int p4), .val (.int bs), .val (.long mask), .second, .val (.long wr), .second, .val (.long dd), .second, .val (.long ins), .second, .val (.int ab), .unset, .unset] [])) _
        exact kt
      · show Steps p.tables e below (s₁.setTop (mkF m 76 #[.val (.long p1), .second, .val (.long p2), .second, .val (.int p3), .val (.int p4), .val (.int bs), .val (.long mask), .second, .val (.long wr), .second, .val (.long dd), .second, .val (.long ins), .second, .unset, .unset, .unset] [(.int (lcmpW (wr &&& mask) (0 : Int64)))])) _
        refine XS.ifYes X0.here hx rfl (pc0 := 76) (pc' := 83) rfl (hb hby at_76) rfl ((if0 _ _).trans (feq (fun z => c69_0 ((lw_eq _ _).mp z))).2) (by decide) (by decide) ?_
        show Steps p.tables e below (s₁.setTop (mkF m 83 #[.val (.long p1), .second, .val (.long p2), .second, .val (.int p3), .val (.int p4), .val (.int bs), .val (.long mask), .second, .val (.long wr), .second, .val (.long dd), .second, .val (.long ins), .second, .unset, .unset, .unset] [])) _
        refine XS.iconst X0.here hx rfl (hb hby at_83) ?_
        have e_ab_f : ab = (0 : Int32) := e_ab.trans (by rw [own_ab, if_neg c69_0])
        show Steps p.tables e below (s₁.setTop (mkF m 84 #[.val (.long p1), .second, .val (.long p2), .second, .val (.int p3), .val (.int p4), .val (.int bs), .val (.long mask), .second, .val (.long wr), .second, .val (.long dd), .second, .val (.long ins), .second, .unset, .unset, .unset] [(.int (0 : Int32))])) _
        refine XS.istore X0.here hx rfl (hb hby at_84) rfl (l' := #[.val (.long p1), .second, .val (.long p2), .second, .val (.int p3), .val (.int p4), .val (.int bs), .val (.long mask), .second, .val (.long wr), .second, .val (.long dd), .second, .val (.long ins), .second, .val (.int ab), .unset, .unset]) (by rw [e_ab_f]; rfl) ?_
        show Steps p.tables e below (s₁.setTop (mkF m 86 #[.val (.long p1), .second, .val (.long p2), .second, .val (.int p3), .val (.int p4), .val (.int bs), .val (.long mask), .second, .val (.long wr), .second, .val (.long dd), .second, .val (.long ins), .second, .val (.int ab), .unset, .unset] [])) _
        exact kt
    refine sg69 _ ?_
    have sg86 : ∀ t, Steps p.tables e below (s₁.setTop (mkF m 109 #[.val (.long p1), .second, .val (.long p2), .second, .val (.int p3), .val (.int p4), .val (.int bs), .val (.long mask), .second, .val (.long wr), .second, .val (.long dd), .second, .val (.long ins), .second, .val (.int ab), .val (.long ex), .second] [])) t → Steps p.tables e below (s₁.setTop (mkF m 86 #[.val (.long p1), .second, .val (.long p2), .second, .val (.int p3), .val (.int p4), .val (.int bs), .val (.long mask), .second, .val (.long wr), .second, .val (.long dd), .second, .val (.long ins), .second, .val (.int ab), .unset, .unset] [])) t := by
      intro t kt
      show Steps p.tables e below (s₁.setTop (mkF m 86 #[.val (.long p1), .second, .val (.long p2), .second, .val (.int p3), .val (.int p4), .val (.int bs), .val (.long mask), .second, .val (.long wr), .second, .val (.long dd), .second, .val (.long ins), .second, .val (.int ab), .unset, .unset] [])) _
      refine XS.iload X0.here hx rfl (hb hby at_86) rfl ?_
      by_cases c86_0 : ab = (0 : Int32)
      · show Steps p.tables e below (s₁.setTop (mkF m 88 #[.val (.long p1), .second, .val (.long p2), .second, .val (.int p3), .val (.int p4), .val (.int bs), .val (.long mask), .second, .val (.long wr), .second, .val (.long dd), .second, .val (.long ins), .second, .val (.int ab), .unset, .unset] [(.int ab)])) _
        refine XS.ifYes X0.here hx rfl (pc0 := 88) (pc' := 105) rfl (hb hby at_88) rfl ((if0 _ _).trans (teq c86_0).1) (by decide) (by decide) ?_
        show Steps p.tables e below (s₁.setTop (mkF m 105 #[.val (.long p1), .second, .val (.long p2), .second, .val (.int p3), .val (.int p4), .val (.int bs), .val (.long mask), .second, .val (.long wr), .second, .val (.long dd), .second, .val (.long ins), .second, .val (.int ab), .unset, .unset] [])) _
        refine XS.lload X0.here hx rfl (hb hby at_105) rfl ?_
        have e_ex_t : ex = ins := e_ex.trans (by rw [own_ex, if_pos c86_0])
        show Steps p.tables e below (s₁.setTop (mkF m 107 #[.val (.long p1), .second, .val (.long p2), .second, .val (.int p3), .val (.int p4), .val (.int bs), .val (.long mask), .second, .val (.long wr), .second, .val (.long dd), .second, .val (.long ins), .second, .val (.int ab), .unset, .unset] [(.long ins)])) _
        refine XS.lstore X0.here hx rfl (hb hby at_107) rfl (l' := #[.val (.long p1), .second, .val (.long p2), .second, .val (.int p3), .val (.int p4), .val (.int bs), .val (.long mask), .second, .val (.long wr), .second, .val (.long dd), .second, .val (.long ins), .second, .val (.int ab), .val (.long ex), .second]) (by rw [e_ex_t]; rfl) ?_
        show Steps p.tables e below (s₁.setTop (mkF m 109 #[.val (.long p1), .second, .val (.long p2), .second, .val (.int p3), .val (.int p4), .val (.int bs), .val (.long mask), .second, .val (.long wr), .second, .val (.long dd), .second, .val (.long ins), .second, .val (.int ab), .val (.long ex), .second] [])) _
        exact kt
      · show Steps p.tables e below (s₁.setTop (mkF m 88 #[.val (.long p1), .second, .val (.long p2), .second, .val (.int p3), .val (.int p4), .val (.int bs), .val (.long mask), .second, .val (.long wr), .second, .val (.long dd), .second, .val (.long ins), .second, .val (.int ab), .unset, .unset] [(.int ab)])) _
        refine XS.ifNo X0.here hx rfl (hb hby at_88) rfl ((if0 _ _).trans (feq c86_0).1) ?_
        show Steps p.tables e below (s₁.setTop (mkF m 91 #[.val (.long p1), .second, .val (.long p2), .second, .val (.int p3), .val (.int p4), .val (.int bs), .val (.long mask), .second, .val (.long wr), .second, .val (.long dd), .second, .val (.long ins), .second, .val (.int ab), .unset, .unset] [])) _
        refine XS.lload X0.here hx rfl (hb hby at_91) rfl ?_
        show Steps p.tables e below (s₁.setTop (mkF m 93 #[.val (.long p1), .second, .val (.long p2), .second, .val (.int p3), .val (.int p4), .val (.int bs), .val (.long mask), .second, .val (.long wr), .second, .val (.long dd), .second, .val (.long ins), .second, .val (.int ab), .unset, .unset] [(.long dd)])) _
        refine X0.ldc2Long hx hown (mvT hZ (hw _ (List.mem_of_getElem? (i := 3) rfl))) (g := (mkF m 93 #[.val (.long p1), .second, .val (.long p2), .second, .val (.int p3), .val (.int p4), .val (.int bs), .val (.long mask), .second, .val (.long wr), .second, .val (.long dd), .second, .val (.long ins), .second, .val (.int ab), .unset, .unset] [(.long dd)])) rfl (hb hby at_93) _ ?_
        show Steps p.tables e below (s₁.setTop (mkF m 96 #[.val (.long p1), .second, .val (.long p2), .second, .val (.int p3), .val (.int p4), .val (.int bs), .val (.long mask), .second, .val (.long wr), .second, .val (.long dd), .second, .val (.long ins), .second, .val (.int ab), .unset, .unset] [(.long (40 : Int64)), (.long dd)])) _
        refine XS.lcmp X0.here hx rfl (hb hby at_96) rfl ?_
        by_cases c86_1 : (40 : Int64) < dd
        · show Steps p.tables e below (s₁.setTop (mkF m 97 #[.val (.long p1), .second, .val (.long p2), .second, .val (.int p3), .val (.int p4), .val (.int bs), .val (.long mask), .second, .val (.long wr), .second, .val (.long dd), .second, .val (.long ins), .second, .val (.int ab), .unset, .unset] [(.int (lcmpW dd (40 : Int64)))])) _
          refine XS.ifYes X0.here hx rfl (pc0 := 97) (pc' := 105) rfl (hb hby at_97) rfl ((if0 _ _).trans (tlt ((lw_gt _ _).mpr c86_1)).2.2.1) (by decide) (by decide) ?_
          show Steps p.tables e below (s₁.setTop (mkF m 105 #[.val (.long p1), .second, .val (.long p2), .second, .val (.int p3), .val (.int p4), .val (.int bs), .val (.long mask), .second, .val (.long wr), .second, .val (.long dd), .second, .val (.long ins), .second, .val (.int ab), .unset, .unset] [])) _
          refine XS.lload X0.here hx rfl (hb hby at_105) rfl ?_
          have e_ex_ft : ex = ins := e_ex.trans (by rw [own_ex, if_neg c86_0, if_pos c86_1])
          show Steps p.tables e below (s₁.setTop (mkF m 107 #[.val (.long p1), .second, .val (.long p2), .second, .val (.int p3), .val (.int p4), .val (.int bs), .val (.long mask), .second, .val (.long wr), .second, .val (.long dd), .second, .val (.long ins), .second, .val (.int ab), .unset, .unset] [(.long ins)])) _
          refine XS.lstore X0.here hx rfl (hb hby at_107) rfl (l' := #[.val (.long p1), .second, .val (.long p2), .second, .val (.int p3), .val (.int p4), .val (.int bs), .val (.long mask), .second, .val (.long wr), .second, .val (.long dd), .second, .val (.long ins), .second, .val (.int ab), .val (.long ex), .second]) (by rw [e_ex_ft]; rfl) ?_
          show Steps p.tables e below (s₁.setTop (mkF m 109 #[.val (.long p1), .second, .val (.long p2), .second, .val (.int p3), .val (.int p4), .val (.int bs), .val (.long mask), .second, .val (.long wr), .second, .val (.long dd), .second, .val (.long ins), .second, .val (.int ab), .val (.long ex), .second] [])) _
          exact kt
        · show Steps p.tables e below (s₁.setTop (mkF m 97 #[.val (.long p1), .second, .val (.long p2), .second, .val (.int p3), .val (.int p4), .val (.int bs), .val (.long mask), .second, .val (.long wr), .second, .val (.long dd), .second, .val (.long ins), .second, .val (.int ab), .unset, .unset] [(.int (lcmpW dd (40 : Int64)))])) _
          refine XS.ifNo X0.here hx rfl (hb hby at_97) rfl ((if0 _ _).trans (flt (fun z => c86_1 ((lw_gt _ _).mp z))).2.2.1) ?_
          show Steps p.tables e below (s₁.setTop (mkF m 100 #[.val (.long p1), .second, .val (.long p2), .second, .val (.int p3), .val (.int p4), .val (.int bs), .val (.long mask), .second, .val (.long wr), .second, .val (.long dd), .second, .val (.long ins), .second, .val (.int ab), .unset, .unset] [])) _
          refine XS.lload X0.here hx rfl (hb hby at_100) rfl ?_
          show Steps p.tables e below (s₁.setTop (mkF m 102 #[.val (.long p1), .second, .val (.long p2), .second, .val (.int p3), .val (.int p4), .val (.int bs), .val (.long mask), .second, .val (.long wr), .second, .val (.long dd), .second, .val (.long ins), .second, .val (.int ab), .unset, .unset] [(.long wr)])) _
          refine XS.goto X0.here hx rfl (pc0 := 102) (pc' := 107) rfl (hb hby at_102) (by decide) (by decide) ?_
          have e_ex_ff : ex = wr := e_ex.trans (by rw [own_ex, if_neg c86_0, if_neg c86_1])
          show Steps p.tables e below (s₁.setTop (mkF m 107 #[.val (.long p1), .second, .val (.long p2), .second, .val (.int p3), .val (.int p4), .val (.int bs), .val (.long mask), .second, .val (.long wr), .second, .val (.long dd), .second, .val (.long ins), .second, .val (.int ab), .unset, .unset] [(.long wr)])) _
          refine XS.lstore X0.here hx rfl (hb hby at_107) rfl (l' := #[.val (.long p1), .second, .val (.long p2), .second, .val (.int p3), .val (.int p4), .val (.int bs), .val (.long mask), .second, .val (.long wr), .second, .val (.long dd), .second, .val (.long ins), .second, .val (.int ab), .val (.long ex), .second]) (by rw [e_ex_ff]; rfl) ?_
          show Steps p.tables e below (s₁.setTop (mkF m 109 #[.val (.long p1), .second, .val (.long p2), .second, .val (.int p3), .val (.int p4), .val (.int bs), .val (.long mask), .second, .val (.long wr), .second, .val (.long dd), .second, .val (.long ins), .second, .val (.int ab), .val (.long ex), .second] [])) _
          exact kt
    refine sg86 _ ?_
    show Steps p.tables e below (s₁.setTop (mkF m 109 #[.val (.long p1), .second, .val (.long p2), .second, .val (.int p3), .val (.int p4), .val (.int bs), .val (.long mask), .second, .val (.long wr), .second, .val (.long dd), .second, .val (.long ins), .second, .val (.int ab), .val (.long ex), .second] [])) _
    refine XS.lload X0.here hx rfl (hb hby at_109) rfl ?_
    show Steps p.tables e below (s₁.setTop (mkF m 111 #[.val (.long p1), .second, .val (.long p2), .second, .val (.int p3), .val (.int p4), .val (.int bs), .val (.long mask), .second, .val (.long wr), .second, .val (.long dd), .second, .val (.long ins), .second, .val (.int ab), .val (.long ex), .second] [(.long wr)])) _
    refine XS.lload X0.here hx rfl (hb hby at_111) rfl ?_
    show Steps p.tables e below (s₁.setTop (mkF m 113 #[.val (.long p1), .second, .val (.long p2), .second, .val (.int p3), .val (.int p4), .val (.int bs), .val (.long mask), .second, .val (.long wr), .second, .val (.long dd), .second, .val (.long ins), .second, .val (.int ab), .val (.long ex), .second] [(.long ins), (.long wr)])) _
    refine XS.iload X0.here hx rfl (hb hby at_113) rfl ?_
    show Steps p.tables e below (s₁.setTop (mkF m 115 #[.val (.long p1), .second, .val (.long p2), .second, .val (.int p3), .val (.int p4), .val (.int bs), .val (.long mask), .second, .val (.long wr), .second, .val (.long dd), .second, .val (.long ins), .second, .val (.int ab), .val (.long ex), .second] [(.int bs), (.long ins), (.long wr)])) _
    refine st3 _ ?_
    show Steps p.tables e below (T3.setTop (mkF m 118 #[.val (.long p1), .second, .val (.long p2), .second, .val (.int p3), .val (.int p4), .val (.int bs), .val (.long mask), .second, .val (.long wr), .second, .val (.long dd), .second, .val (.long ins), .second, .val (.int ab), .val (.long ex), .second] [(.long (own_end wr ins bs))])) _
    refine XS.lload X3.here hx rfl (hb hby at_118) rfl ?_
    show Steps p.tables e below (T3.setTop (mkF m 120 #[.val (.long p1), .second, .val (.long p2), .second, .val (.int p3), .val (.int p4), .val (.int bs), .val (.long mask), .second, .val (.long wr), .second, .val (.long dd), .second, .val (.long ins), .second, .val (.int ab), .val (.long ex), .second] [(.long ex), (.long (own_end wr ins bs))])) _
    refine XS.lcmp X3.here hx rfl (hb hby at_120) rfl ?_
    show Steps p.tables e below (T3.setTop (mkF m 121 #[.val (.long p1), .second, .val (.long p2), .second, .val (.int p3), .val (.int p4), .val (.int bs), .val (.long mask), .second, .val (.long wr), .second, .val (.long dd), .second, .val (.long ins), .second, .val (.int ab), .val (.long ex), .second] [(.int (lcmpW (own_end wr ins bs) ex))])) _
    refine XS.ifNo X3.here hx rfl (hb hby at_121) rfl ((if0 _ _).trans (teq ((lw_eq _ _).mpr hfin)).2) ?_
    show Steps p.tables e below (T3.setTop (mkF m 124 #[.val (.long p1), .second, .val (.long p2), .second, .val (.int p3), .val (.int p4), .val (.int bs), .val (.long mask), .second, .val (.long wr), .second, .val (.long dd), .second, .val (.long ins), .second, .val (.int ab), .val (.long ex), .second] [])) _
    refine XS.iconst X3.here hx rfl (hb hby at_124) ?_
    show Steps p.tables e below (T3.setTop (mkF m 125 #[.val (.long p1), .second, .val (.long p2), .second, .val (.int p3), .val (.int p4), .val (.int bs), .val (.long mask), .second, .val (.long wr), .second, .val (.long dd), .second, .val (.long ins), .second, .val (.int ab), .val (.long ex), .second] [(.int (1 : Int32))])) _
    refine XS.goto X3.here hx rfl (pc0 := 125) (pc' := 129) rfl (hb hby at_125) (by decide) (by decide) ?_
    show Steps p.tables e below (T3.setTop (mkF m 129 #[.val (.long p1), .second, .val (.long p2), .second, .val (.int p3), .val (.int p4), .val (.int bs), .val (.long mask), .second, .val (.long wr), .second, .val (.long dd), .second, .val (.long ins), .second, .val (.int ab), .val (.long ex), .second] [(.int (1 : Int32))])) _
    exact retN X3 hx (t := .boolean) Bd.returns (by simp) (hb hby at_129) hr
  · show Q0 Z p1 p2 p3 p4 h0 n0 _ T3.heap _
    exact ⟨rfl, N3⟩
set_option maxRecDepth 65536 in
set_option maxHeartbeats 40000000 in
theorem comes_1 {Post : Tables → Env → Array Value → State → Outcome → State → Prop} (hpost : ∀ tb e args s v u, (limb_1_1.after args s (.returned v) u = true ∧ limb_1_2.after args s (.returned v) u = true ∧ True) → FrameEnd s (.returned v) u (Jvm.fieldLocs frame_1_writes args s ++ Jvm.arrayLocs frame_1_arrays args s ++ Jvm.staticLocs frame_1_statics s) 0 0 → Post tb e args s (.returned v) u) :
    ArmFor flags0 classFile x code maxLocals ret World_1 tables_1 room_1 Calls_1 rest_1 Pre_1 Post := by
  intro l hfl _ _ p e ha hc hk s m args below hf hA hF happ hP
  obtain ⟨hcalls, hrest, hpre⟩ := hP
  obtain ⟨-, -, -, hnamed, -, -, -, hat⟩ := (Spec.applies_iff hf).mp happ
  obtain ⟨hg, hn⟩ := and_e (Cond.before_iff.mp (show (Jvm.Cond.and given_1 narrow_1).before args s = true from hpre))
  obtain ⟨gc, gr0⟩ := and_e hg
  obtain ⟨ga0, gr1⟩ := and_e gr0
  obtain ⟨ga1, gr2⟩ := and_e gr1
  obtain ⟨ga2, gr3⟩ := and_e gr2
  have ga3 := gr3
  obtain ⟨w0, w1, w2, w3, rfl⟩ : ∃ w0 w1 w2 w3 : Value, args = #[w0, w1, w2, w3] := by
    have hs : args.size = 4 := by simpa [Cond.value, given_1] using gc
    obtain ⟨L⟩ := args
    match L, hs with
    | [w0, w1, w2, w3], _ => exact ⟨w0, w1, w2, w3, rfl⟩
  have hw := fun d (hd : d ∈ tables_1) => atoms_spec (ws := Jvm.Cond.code x code maxLocals ret :: tables_1) hat d (List.mem_cons_of_mem _ hd)
  obtain ⟨i0, ei0⟩ := isL_v ga0
  obtain rfl : w0 = (.long i0) := Option.some.inj ei0
  obtain ⟨i1, ei1⟩ := isL_v ga1
  obtain rfl : w1 = (.long i1) := Option.some.inj ei1
  obtain ⟨i2, ei2⟩ := is_v ga2
  obtain rfl : w2 = (.int i2) := Option.some.inj ei2
  obtain ⟨i3, ei3⟩ := is_v ga3
  obtain rfl : w3 = (.int i3) := Option.some.inj ei3
  obtain ⟨n, o, h1, h2, h3, _, L, rfl, ⟨rfl, N⟩, hq⟩ := rm0 l s _ hw tables_1 i0 i1 i2 i3 s.heap s.heap.size (Nat.le_refl _) p e ha hc hk s m _ below hf ((Spec.applies_iff_loose hf).mp happ).1 ⟨rfl, State.Warmed39.refl s, rfl⟩ trivial
  refine ⟨n, _, h1, h2, h3, hpost _ _ _ _ _ _ ⟨Cond.after_iff.mpr rfl, Cond.after_iff.mpr (eq_i res_at (Term.int_eval (1)) rfl), trivial⟩ ⟨hq.1, hq.2.1, (hq.2.2.sift fun y hy => Or.inr (N y hy)).mono (by decide) (by decide)⟩⟩
theorem main_1_1 : Claimed_1_1 := comes_1 fun _ _ _ _ _ _ h hF => ⟨h.1, hF⟩
theorem main_1_2 : Claimed_1_2 := comes_1 fun _ _ _ _ _ _ h hF => ⟨h.2.1, hF⟩
end Jvm.Pilot.@@N@@
namespace Jvm.Pilot.@@N@@
open Jvm Jvm.ClassFile Sem Op Lib Jvm.Free Jvm.Stand Jvm.Pilot.@@N@@.Jvm.D
/-! MADE BY PROGRAM (witnessworld.py) out of the Statement's table words and the real class files: 14 classes; the members and pool entries that the words name. The judged class is class 1, her method 1. -/
namespace start1
open Jvm.ClassFile
def u (s : String) : CpInfo := .utf8 (stringToUtf16 s)
/-- a pool by its gaps: so many unusable entries, then the entry; so many at the end -/
def gap : Nat → List CpInfo → List CpInfo
  | 0, r => r
  | n + 1, r => .unusable :: gap n r
def poolList (es : List (Nat × CpInfo)) (last : Nat) : List CpInfo := es.foldr (fun e r => gap e.1 (e.2 :: r)) (gap last [])
def pool (es : List (Nat × CpInfo)) (last : Nat) : Array CpInfo := ⟨poolList es last⟩
def fileOf (pool : Array CpInfo) (this : Nat) (attrs : Array Attribute := #[]) (ms : Array MethodInfo := #[]) (fl : Nat := 33) (sup : Nat := 0) (ifs : Array Nat := #[]) (fds : Array FieldInfo := #[]) : ClassFile where
  minorVersion := 0
  majorVersion := 65
  constantPool := pool
  accessFlags := fl
  thisClass := this
  superClass := sup
  interfaces := ifs
  fields := fds
  methods := ms
  attributes := attrs
def plain (name : String) (sup : Option ClassId) : Class where
  name := name
  kind := .ordinary
  loader := none
  accessFlags := 33
  super := sup
  interfaces := #[]
  cf := none
  fields := #[]
  methods := #[]
  instanceTypes := #[]
  staticTypes := #[]
  resolved := #[]
  callSites := []
  init := .initialized
  statics := none
  mirror := none

def pool0 : Array CpInfo := pool [(5, u "<init>"), (0, u "()V"), (1, .class_ 10), (1, u "java/lang/Object")] 113

def k0m0 : Method := { name := "<init>", desc := "()V", sig := { parameters := [], returnType := none }, accessFlags := 1, code := none }
/-- java/lang/Object -/
def k0 : Class := { plain "java/lang/Object" none with
  accessFlags := 33
  interfaces := #[]
  cf := some (fileOf pool0 8 #[] #[{ accessFlags := 1, nameIndex := 5, descriptorIndex := 6, attributes := #[] }] 33 0 #[] #[])
  fields := #[]
  methods := #[k0m0]
  instanceTypes := #[]
  staticTypes := #[]
  resolved := Array.replicate 124 none
  statics := none }

def pool1 : Array CpInfo := pool [(2, .class_ 4), (1, u "java/lang/Object"), (0, u "<init>"), (0, u "()V"), (0, .integer 2147483647), (0, .long 18446744073709551615), (1, .long 63), (1, .long 40), (1, .methodref 15 16), (0, .class_ 17), (0, .nameAndType 18 19), (0, u "com/example/lagwise/lagwise/postgresql/WalPositions"), (0, u "end"), (0, u "(JJI)J"), (0, .class_ 21), (0, u "com/example/lagwise/lagwise/postgresql/WalPositionsEndPinLaw"), (2, u "law"), (0, u "(JJII)Z")] 3

def k1m0 : Method := { name := "<init>", desc := "()V", sig := { parameters := [], returnType := none }, accessFlags := 1, code := none }
def k1c1 : Code := { maxStack := 6, maxLocals := 18, code := code, exceptionTable := #[], attributes := #[] }
def k1m1 : Method := { name := "law", desc := "(JJII)Z", sig := { parameters := [.long, .long, .int, .int], returnType := some .boolean }, accessFlags := 9, code := some k1c1 }
/-- com/example/lagwise/lagwise/postgresql/WalPositionsEndPinLaw -/
def k1 : Class := { plain "com/example/lagwise/lagwise/postgresql/WalPositionsEndPinLaw" (some 0) with
  accessFlags := 49
  interfaces := #[]
  cf := some (fileOf pool1 20 #[] #[{ accessFlags := 1, nameIndex := 5, descriptorIndex := 6, attributes := #[] }, { accessFlags := 9, nameIndex := 24, descriptorIndex := 25, attributes := #[] }] 49 2 #[] #[])
  fields := #[]
  methods := #[k1m0, k1m1]
  instanceTypes := #[]
  staticTypes := #[]
  resolved := Array.replicate 29 none
  statics := none }

def pool2 : Array CpInfo := pool [(2, .class_ 4), (1, u "java/lang/Object"), (0, u "<init>"), (0, u "()V"), (6, .class_ 14), (0, u "com/example/lagwise/lagwise/postgresql/WalPositions"), (36, u "end"), (0, u "(JJI)J"), (15, .methodref 69 70), (0, .class_ 71), (0, .nameAndType 72 73), (0, u "java/lang/Long"), (0, u "remainderUnsigned"), (0, u "(JJ)J"), (0, .long 40), (35, u "LONGEST_PAGE_HEADER"), (0, u "I"), (2, u "PRIMARY_QUERY"), (0, u "Ljava/lang/String;"), (0, u "REPLAY_QUERY")] 12

def k2m0 : Method := { name := "<init>", desc := "()V", sig := { parameters := [], returnType := none }, accessFlags := 2, code := none }
def k2c1 : Code := { maxStack := 4, maxLocals := 6, code := prog_83_method_4_code, exceptionTable := #[], attributes := #[] }
def k2m1 : Method := { name := "end", desc := "(JJI)J", sig := { parameters := [.long, .long, .int], returnType := some .long }, accessFlags := 8, code := some k2c1 }
/-- com/example/lagwise/lagwise/postgresql/WalPositions -/
def k2 : Class := { plain "com/example/lagwise/lagwise/postgresql/WalPositions" (some 0) with
  accessFlags := 48
  interfaces := #[]
  cf := some (fileOf pool2 13 #[] #[{ accessFlags := 2, nameIndex := 5, descriptorIndex := 6, attributes := #[] }, { accessFlags := 8, nameIndex := 51, descriptorIndex := 52, attributes := #[] }] 48 2 #[] #[{ accessFlags := 26, nameIndex := 110, descriptorIndex := 111, attributes := #[] }, { accessFlags := 26, nameIndex := 114, descriptorIndex := 115, attributes := #[] }, { accessFlags := 26, nameIndex := 116, descriptorIndex := 115, attributes := #[] }])
  fields := #[{ name := "LONGEST_PAGE_HEADER", type := .int, accessFlags := 26, slot := 0, constantValue := 0 }, { name := "PRIMARY_QUERY", type := (.object "java/lang/String"), accessFlags := 26, slot := 1, constantValue := 0 }, { name := "REPLAY_QUERY", type := (.object "java/lang/String"), accessFlags := 26, slot := 2, constantValue := 0 }]
  methods := #[k2m0, k2m1]
  instanceTypes := #[]
  staticTypes := #[.int, (.object "java/lang/String"), (.object "java/lang/String")]
  resolved := Array.replicate 129 none
  statics := none }

def pool3 : Array CpInfo := pool [(1, .class_ 2), (0, u "java/io/Serializable"), (0, .class_ 4), (0, u "java/lang/Object")] 2

/-- java/io/Serializable -/
def k3 : Class := { plain "java/io/Serializable" (some 0) with
  accessFlags := 1537
  interfaces := #[]
  cf := some (fileOf pool3 1 #[] #[] 1537 3 #[] #[])
  fields := #[]
  methods := #[]
  instanceTypes := #[]
  staticTypes := #[]
  resolved := Array.replicate 7 none
  statics := none }

def pool4 : Array CpInfo := pool [(2, .class_ 4), (1, u "java/lang/Object"), (0, u "<init>"), (0, u "()V"), (1, .class_ 10), (1, u "java/lang/Number"), (2, .class_ 14), (0, u "java/io/Serializable"), (0, u "serialVersionUID"), (0, u "J")] 20

def k4m0 : Method := { name := "<init>", desc := "()V", sig := { parameters := [], returnType := none }, accessFlags := 1, code := none }
/-- java/lang/Number -/
def k4 : Class := { plain "java/lang/Number" (some 0) with
  accessFlags := 1057
  interfaces := #[3]
  cf := some (fileOf pool4 8 #[] #[{ accessFlags := 1, nameIndex := 5, descriptorIndex := 6, attributes := #[] }] 1057 2 #[13] #[{ accessFlags := 26, nameIndex := 15, descriptorIndex := 16, attributes := #[] }])
  fields := #[{ name := "serialVersionUID", type := .long, accessFlags := 26, slot := 0, constantValue := 0 }]
  methods := #[k4m0]
  instanceTypes := #[]
  staticTypes := #[.long]
  resolved := Array.replicate 37 none
  statics := none }

def pool5 : Array CpInfo := pool [(1, .class_ 2), (0, u "java/lang/Comparable"), (0, .class_ 4), (0, u "java/lang/Object")] 7

/-- java/lang/Comparable -/
def k5 : Class := { plain "java/lang/Comparable" (some 0) with
  accessFlags := 1537
  interfaces := #[]
  cf := some (fileOf pool5 1 #[] #[] 1537 3 #[] #[])
  fields := #[]
  methods := #[]
  instanceTypes := #[]
  staticTypes := #[]
  resolved := Array.replicate 12 none
  statics := none }

def pool6 : Array CpInfo := pool [(1, .class_ 2), (0, u "java/lang/constant/Constable"), (0, .class_ 4), (0, u "java/lang/Object")] 6

/-- java/lang/constant/Constable -/
def k6 : Class := { plain "java/lang/constant/Constable" (some 0) with
  accessFlags := 1537
  interfaces := #[]
  cf := some (fileOf pool6 1 #[] #[] 1537 3 #[] #[])
  fields := #[]
  methods := #[]
  instanceTypes := #[]
  staticTypes := #[]
  resolved := Array.replicate 11 none
  statics := none }

def pool7 : Array CpInfo := pool [(1, .class_ 2), (0, u "java/lang/constant/ConstantDesc"), (0, .class_ 4), (0, u "java/lang/Object")] 32

/-- java/lang/constant/ConstantDesc -/
def k7 : Class := { plain "java/lang/constant/ConstantDesc" (some 0) with
  accessFlags := 1537
  interfaces := #[]
  cf := some (fileOf pool7 1 #[] #[] 1537 3 #[] #[])
  fields := #[]
  methods := #[]
  instanceTypes := #[]
  staticTypes := #[]
  resolved := Array.replicate 37 none
  statics := none }

def pool8 : Array CpInfo := pool [(1, .class_ 2), (0, u "java/lang/Long"), (232, .class_ 237), (1, u "java/lang/Long$LongCache"), (33, .class_ 272), (0, u "java/lang/Number"), (2, u "value"), (0, u "J"), (29, .long 18446744073709551615), (26, u "(JJ)J"), (27, u "TYPE"), (0, u "Ljava/lang/Class;"), (0, .class_ 364), (0, u "java/lang/Comparable"), (0, .class_ 366), (0, u "java/lang/constant/Constable"), (0, .class_ 368), (0, u "java/lang/constant/ConstantDesc"), (0, u "MIN_VALUE"), (1, u "MAX_VALUE"), (4, u "SIZE"), (0, u "I"), (1, u "BYTES"), (1, u "serialVersionUID"), (91, u "remainderUnsigned")] 50

def k8c0 : Code := { maxStack := 8, maxLocals := 8, code := jdk_35_method_45_code, exceptionTable := #[], attributes := #[] }
def k8m0 : Method := { name := "remainderUnsigned", desc := "(JJ)J", sig := { parameters := [.long, .long], returnType := some .long }, accessFlags := 9, code := some k8c0 }
/-- java/lang/Long -/
def k8 : Class := { plain "java/lang/Long" (some 4) with
  accessFlags := 49
  interfaces := #[5, 6, 7]
  cf := some (fileOf pool8 1 #[.nestMembers #[235]] #[{ accessFlags := 9, nameIndex := 473, descriptorIndex := 333, attributes := #[] }] 49 271 #[363, 365, 367] #[{ accessFlags := 25, nameIndex := 369, descriptorIndex := 276, attributes := #[] }, { accessFlags := 25, nameIndex := 371, descriptorIndex := 276, attributes := #[] }, { accessFlags := 25, nameIndex := 361, descriptorIndex := 362, attributes := #[] }, { accessFlags := 18, nameIndex := 275, descriptorIndex := 276, attributes := #[] }, { accessFlags := 25, nameIndex := 376, descriptorIndex := 377, attributes := #[] }, { accessFlags := 25, nameIndex := 379, descriptorIndex := 377, attributes := #[] }, { accessFlags := 26, nameIndex := 381, descriptorIndex := 276, attributes := #[] }])
  fields := #[{ name := "MIN_VALUE", type := .long, accessFlags := 25, slot := 0, constantValue := 0 }, { name := "MAX_VALUE", type := .long, accessFlags := 25, slot := 1, constantValue := 0 }, { name := "TYPE", type := (.object "java/lang/Class"), accessFlags := 25, slot := 2, constantValue := 0 }, { name := "value", type := .long, accessFlags := 18, slot := 0, constantValue := 0 }, { name := "SIZE", type := .int, accessFlags := 25, slot := 3, constantValue := 0 }, { name := "BYTES", type := .int, accessFlags := 25, slot := 4, constantValue := 0 }, { name := "serialVersionUID", type := .long, accessFlags := 26, slot := 5, constantValue := 0 }]
  methods := #[k8m0]
  instanceTypes := #[.long]
  staticTypes := #[.long, .long, (.object "java/lang/Class"), .int, .int, .long]
  resolved := Array.replicate 524 none
  statics := none }

def pool9 : Array CpInfo := pool [(1, u "java/lang/Cloneable"), (0, .class_ 1), (0, u "java/lang/Object"), (0, .class_ 3)] 3

/-- java/lang/Cloneable -/
def k9 : Class := { plain "java/lang/Cloneable" (some 0) with
  accessFlags := 1537
  interfaces := #[]
  cf := some (fileOf pool9 2 #[] #[] 1537 4 #[] #[])
  fields := #[]
  methods := #[]
  instanceTypes := #[]
  staticTypes := #[]
  resolved := Array.replicate 8 none
  statics := none }

/-- the primitive byte -/
def k10 : Class := { plain "byte" none with kind := .primitive 'B', accessFlags := 0x411 }
/-- [B -/
def k11 : Class := { plain "[B" (some 0) with kind := .array 10 .byte, interfaces := #[9, 3], accessFlags := 1041 }

/-- the primitive int -/
def k12 : Class := { plain "int" none with kind := .primitive 'I', accessFlags := 0x411 }
/-- [I -/
def k13 : Class := { plain "[I" (some 0) with kind := .array 12 .int, interfaces := #[9, 3], accessFlags := 1041 }

def heap : Heap := #[]
def classes : Array Class := #[k0, k1, k2, k3, k4, k5, k6, k7, k8, k9, k10, k11, k12, k13]
def interned : List (Array UInt16 × Addr) := []
def slotsUsed : Nat := 0
def theMethod : MethodId := ⟨1, 1⟩
def args0 : Array Value := #[.long 2048, .long 5, .int 3, .int 3]
def aboutOver (below : List Frame) : State where
  vm := { classes := classes, interned := interned.toArray }
  heap := heap
  slotsUsed := slotsUsed
  threads := #[{ frames := .invoking theMethod args0 :: below }]
def below0 : List Frame := [.native { method := ⟨0, 0⟩, args := #[] }]
def about1 : State := aboutOver below0
def p0 : Program := .bare "" "" ""
def e0 : Env := launch0.env 0 0 0
theorem w_frames : about1.frames = Frame.invoking theMethod args0 :: below0 := rfl
set_option maxRecDepth 65536 in
theorem w_args : argsFit about1.vm theMethod args0 = true := by decide +kernel
set_option maxRecDepth 65536 in
theorem w_heap : heapFits about1 = true := by decide +kernel
set_option maxRecDepth 65536 in
theorem w_runnable : about1.curStatus? = some .runnable := by decide +kernel
set_option maxRecDepth 65536 in
theorem w_alone : about1.alone = true := by decide +kernel
set_option maxRecDepth 65536 in
theorem w_named : about1.methodNamed? x = some theMethod := by decide +kernel
set_option maxRecDepth 65536 in
theorem w_hears : about1.hears theMethod below0 = true := by decide +kernel
set_option maxRecDepth 65536 in
theorem w_ripe : about1.ripe theMethod args0 below0 = true := by decide +kernel
theorem w_running : about1.status = .running := rfl
set_option maxRecDepth 65536 in
theorem w_room : about1.hasRoom e0.platform room_1 = true :=
  launch0.hasRoom_least _ room_1 (by decide +kernel) (by decide +kernel) (by decide +kernel) (by decide +kernel) (by decide +kernel) (by decide +kernel)
theorem allAtoms_all (ts : List Jvm.Cond) (a : Array Jvm.Value) (st : Jvm.State) : (allAtoms ts).before a st = ts.all (fun c => c.before a st) := by
  induction ts with
  | nil => rfl
  | cons c t ih =>
    show (Jvm.Cond.and c (allAtoms t)).before a st = _
    rw [Jvm.Cond.before_and, ih, List.all_cons]
def words1 : List Jvm.Cond := Jvm.Cond.code x code maxLocals ret :: tables_1
/-- a 'code' word, met by the world's own term for the bytes: nothing is compared byte by byte -/
theorem code_word {y : MethodName} {bytes : ByteArray} {mx : Nat} {rt : Option FieldType} {a : Array Value} {s : State} {m : MethodId} {meth : Method} {c : Code} (h1 : s.methodNamed? y = some m) (h2 : s.vm.method? m = some meth) (h3 : meth.code = some c) (h4 : c.code = bytes)
    (h5 : (c.maxLocals == mx && c.exceptionTable.isEmpty && decide (c.maxStack ≤ mostOperands) && decide (meth.sig.returnType = rt) && !meth.locks && decide (parseMethodDescriptor y.desc = some meth.sig)) = true) : (Jvm.Cond.code y bytes mx rt).before a s = true := by
  simp only [Bool.and_eq_true, beq_iff_eq, Bool.not_eq_true', decide_eq_true_eq] at h5
  obtain ⟨⟨⟨⟨⟨g1, g2⟩, g3⟩, g4⟩, g5⟩, g6⟩ := h5
  simp [Cond.before, Cond.holds, Cond.value, h1, h2, h3, h4, g1, g2, g3, g4, g5, g6]
def isCode : Jvm.Cond → Bool
  | .code _ _ _ _ => true
  | _ => false
theorem all_split {L : List Jvm.Cond} {P : Jvm.Cond → Bool} (h1 : L.all (fun c => isCode c || P c) = true) (h2 : ∀ c ∈ L.filter isCode, P c = true) : L.all P = true := by
  refine List.all_eq_true.mpr fun c hc => ?_
  have h := List.all_eq_true.mp h1 c hc
  rcases Bool.eq_false_or_eq_true (isCode c) with hi | hi
  · exact h2 c (List.mem_filter.mpr ⟨hc, hi⟩)
  · simpa [hi] using h
set_option maxRecDepth 65536 in
theorem w_c0 : (Jvm.Cond.code x code maxLocals ret).before args0 about1 = true := code_word (m := ⟨1, 1⟩) (meth := k1m1) (c := k1c1) (by decide +kernel) rfl rfl rfl (by decide +kernel)
set_option maxRecDepth 65536 in
theorem w_c1 : (Jvm.Cond.code ({ cls := "com/example/lagwise/lagwise/postgresql/WalPositions", name := "end", desc := "(JJI)J" } : Jvm.MethodName) prog_83_method_4_code (6 : Nat) (Option.some Jvm.ClassFile.FieldType.long)).before args0 about1 = true := code_word (m := ⟨2, 1⟩) (meth := k2m1) (c := k2c1) (by decide +kernel) rfl rfl rfl (by decide +kernel)
set_option maxRecDepth 65536 in
theorem w_c2 : (Jvm.Cond.code ({ cls := "java/lang/Long", name := "remainderUnsigned", desc := "(JJ)J" } : Jvm.MethodName) jdk_35_method_45_code (8 : Nat) (Option.some Jvm.ClassFile.FieldType.long)).before args0 about1 = true := code_word (m := ⟨8, 0⟩) (meth := k8m0) (c := k8c0) (by decide +kernel) rfl rfl rfl (by decide +kernel)
def codes1 : List Jvm.Cond := [Jvm.Cond.code x code maxLocals ret, Jvm.Cond.code ({ cls := "com/example/lagwise/lagwise/postgresql/WalPositions", name := "end", desc := "(JJI)J" } : Jvm.MethodName) prog_83_method_4_code (6 : Nat) (Option.some Jvm.ClassFile.FieldType.long), Jvm.Cond.code ({ cls := "java/lang/Long", name := "remainderUnsigned", desc := "(JJ)J" } : Jvm.MethodName) jdk_35_method_45_code (8 : Nat) (Option.some Jvm.ClassFile.FieldType.long)]
set_option maxRecDepth 65536 in
theorem codes_eq : words1.filter isCode = codes1 := rfl
theorem w_codes : ∀ c ∈ words1.filter isCode, c.before args0 about1 = true := by
  rw [codes_eq]
  intro c hc
  simp only [codes1, List.mem_cons, List.not_mem_nil, or_false] at hc
  rcases hc with rfl | rfl | rfl
  · exact w_c0
  · exact w_c1
  · exact w_c2
set_option maxRecDepth 65536 in
theorem w_t1 : words1.all (fun c => isCode c || c.before args0 about1) = true := by decide +kernel
theorem w_tables : (allAtoms (Jvm.Cond.code x code maxLocals ret :: tables_1)).before args0 about1 = true := by
  rw [allAtoms_all]
  show words1.all (fun c => c.before args0 about1) = true
  refine all_split ?_ w_codes
  rw [w_t1]
set_option maxRecDepth 65536 in
theorem w_case : (Jvm.Cond.and given_1 narrow_1).before args0 about1 = true := by decide +kernel
theorem w_applies : (headSpec (Jvm.Cond.code x code maxLocals ret :: tables_1) room_1).applies x e0.platform about1 = true :=
  (Spec.applies_iff w_frames).mpr ⟨w_running, w_runnable, w_alone, w_named, w_hears, w_ripe, w_room, w_tables⟩
theorem atStart : AtStart classFile x code maxLocals ret World_1 tables_1 room_1 Calls_1 rest_1 Pre_1 launch0 p0 e0 about1 theMethod args0 below0 :=
  ⟨lists_1, trivial, launch0.admits_env _ _ _, launch0.least_env, fairChoices_fair.cas, fairChoices_fair.clock, w_frames, w_args, w_heap, w_applies, trivial, trivial, w_case⟩
end start1
theorem witness_1 : WitnessClaimed_1 := ⟨start1.p0, start1.e0, start1.about1, start1.theMethod, start1.args0, start1.below0, start1.atStart⟩
end Jvm.Pilot.@@N@@
