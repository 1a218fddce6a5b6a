import JvmDerived
import JvmDerived.Pilot.@@N@@Statement
import JvmDerived.Pilot.@@N@@Code
set_option linter.unusedVariables false
set_option linter.unusedSimpArgs false
@@BLOCK:NumsL.lean.txt@@
namespace Jvm.RoadKit
open Sem ClassFile Op Lib Jvm.Stand Jvm.Free Jvm.LawKit
section New
variable {p : Program} {l : Launch} {e : Env} {R : Room} {s : State} {m : MethodId} {args : Array Value} {below : List Frame} {meth : Method} {c : Code} {T : State} {locs : List Loc} {cells slots : Nat}
theorem retI (X : Stand p l e R s m args below meth c T locs cells slots) (hx : p.tables.exec = Jvm.exec) {pc : Nat} {Ls : Array Slot} {z : Int32} {rest : List Value} (hret : meth.sig.returnType = some .int) (hd : decode c.code pc = .ok (.ireturn, 1)) {fs : List Frame}
    (hl : ∀ (f : JFrame) (acts : List Action), f.method = m → f.locked = none → f.entered = [] → (doReturn e (T.setTop f) acts (some (.int z))).1 = T.setFrames fs) : Steps p.tables e below (T.setTop (mkF m pc Ls (.int z :: rest))) (T.setFrames fs) := by
  have hm' : T.vm.method? m = some meth := X.method'
  have hn : narrow .int (.int z) = .int z := rfl
  show Steps p.tables e below (T.setTop { method := m, pc := pc, locals := Ls, stack := _ :: rest, locked := none }) _
  jvm_step X.here [X.here.top, hx, hd, hm', hret, hn]
  first | (intro acts; rw [hl _ acts rfl rfl rfl]) | rw [hl _ _ rfl rfl rfl]
  exact Steps.refl _
end New
end Jvm.RoadKit
namespace Jvm.Pilot.@@N@@
open Jvm Jvm.ClassFile Sem Op Lib Jvm.Free Jvm.Stand Jvm.LawKit Jvm.RoadKit Bundle Jvm.Pilot.@@N@@.Jvm.D
theorem d2_0 : decode jdk_30_method_1_code 0 = .ok (.aload_n 0, 1) := by decide +kernel
theorem d2_1 : decode jdk_30_method_1_code 1 = .ok (.invokespecial 1, 3) := by decide +kernel
theorem d2_4 : decode jdk_30_method_1_code 4 = .ok (.return_, 1) := by decide +kernel
theorem pn_2 : plainName "java/lang/Record" = true := by first | (simp [plainName, overriddenIn]; done) | decide +kernel
theorem ef_2 (m : MethodId) (x0 : Addr) : entryFrame m #[(.ref x0)] 1 = mkF m 0 #[.val (.ref x0)] [] := by first | (simp [entryFrame, mkF, argsToLocals, Value.category]; done) | rfl
def Q2 (Z : State) (a1 : Addr) (h0 : Heap) (n0 : Nat) (v : Option Value) (h : Heap) (L : List Loc) : Prop := v = none ∧ Fr n0 L ∧ h = h0
set_option maxRecDepth 65536 in
set_option maxHeartbeats 40000000 in
theorem rm2 (l : Launch) (Z : State) (a0 : Array Value) (hw : ∀ d ∈ tables_1, d.before a0 Z = true) (ws : List Jvm.Cond) (a1 : Addr) (h0 : Heap) (n0 : Nat) (Z0 : n0 ≤ h0.size) :
    MetFree l (⟨"java/lang/Record", "<init>", "()V"⟩ : MethodName) (head1 (Jvm.Cond.code (⟨"java/lang/Record", "<init>", "()V"⟩ : MethodName) jdk_30_method_1_code 1 none :: ws) ({ frames := 1, cells := 0, slots := 0, locals := 12 } : Room)) (fun a U => a = #[(.ref a1)] ∧ Z.Warmed39 U.vm ∧ U.heap = h0) (fun _ _ _ _ _ => True) (fun _ U o U' => ∃ v L, o = .returned v ∧ Q2 Z a1 h0 n0 v U'.heap L ∧ FrameEnd U o U' L ({ frames := 1, cells := 0, slots := 0, locals := 12 } : Room).cells ({ frames := 1, cells := 0, slots := 0, locals := 12 } : Room).slots) := by
  refine MetFree.of_bodySF (plainFor_of_name pn_2) hisR ?_
  intro p e s m args below meth c s₁ Bd hml0 hP hK
  obtain ⟨rfl, hZ, hh⟩ := hP
  have hx := Bd.exec
  have hby := Bd.bytes
  have hml : c.maxLocals = 1 := hml0
  have hown : s.vm.findClass "java/lang/Record" = some m.cls := findClass_of_methodNamed Bd.named
  have hnm := (name_of_methodNamed Bd.named Bd.method).1
  have X0 : Stand p l e ({ frames := 1, cells := 0, slots := 0, locals := 12 } : Room) s m #[(.ref a1)] below meth c s₁ [] 0 0 := Stand.of_body Bd
  have e0 : s₁.heap = h0 := by rw [← hh, Bd.state]; rfl
  have N0 := Fr.nil n0
  have pre0 : ∀ t, Steps p.tables e below (s₁.setTop (mkF m 0 #[.val (.ref a1)] [])) t → Steps p.tables e below (s₁.setTop (entryFrame m #[(.ref a1)] 1)) t := fun t k => castTop (ef_2 m a1) k
  obtain ⟨T2, X2, e2, st2⟩ := initO X0 hx hZ hown (hw _ (List.mem_of_getElem? (i := 12) rfl)) (hw _ (List.mem_of_getElem? (i := 13) rfl)) (hw _ (List.mem_of_getElem? (i := 14) rfl)) e0 (g := (mkF m 1 #[.val (.ref a1)] [(.ref a1)])) rfl (by rw [hml]; rfl) rfl (hb hby d2_1) (by decide) (W := 0) (by show 2 * 0 + _ ≤ _; exact Nat.le_of_eq rfl) (by decide)
  obtain ⟨fs, hr, hrun, hended, hW, hsame⟩ := X2.leave (v := none) (fun _ => rfl)
  refine ⟨_, _, pre0 _ ?_, hrun, hended, _, _, rfl, ?_, ⟨_, rfl⟩, hW, hsame.mono (by decide) (by decide)⟩
  · show Steps p.tables e below (s₁.setTop (mkF m 0 #[.val (.ref a1)] [])) _
    refine XS.aloadN X0.here hx rfl (hb hby d2_0) rfl rfl ?_
    show Steps p.tables e below (s₁.setTop (mkF m 1 #[.val (.ref a1)] [(.ref a1)])) _
    refine st2 _ ?_
    show Steps p.tables e below (T2.setTop (mkF m 4 #[.val (.ref a1)] [])) _
    exact X2.returnOut hx Bd.returns (hb hby d2_4) hr
  · show Q2 Z a1 h0 n0 _ T2.heap _
    rw [e2]
    exact ⟨rfl, N0, rfl⟩
theorem pd_2 : parseMethodDescriptor "()V" = some ⟨[], none⟩ := by decide +kernel
theorem d1_0 : decode prog_70_method_1_code 0 = .ok (.aload_n 0, 1) := by decide +kernel
theorem d1_1 : decode prog_70_method_1_code 1 = .ok (.invokespecial 1, 3) := by decide +kernel
theorem d1_4 : decode prog_70_method_1_code 4 = .ok (.aload_n 0, 1) := by decide +kernel
theorem d1_5 : decode prog_70_method_1_code 5 = .ok (.aload_n 1, 1) := by decide +kernel
theorem d1_6 : decode prog_70_method_1_code 6 = .ok (.putfield 7, 3) := by decide +kernel
theorem d1_9 : decode prog_70_method_1_code 9 = .ok (.aload_n 0, 1) := by decide +kernel
theorem d1_10 : decode prog_70_method_1_code 10 = .ok (.lload_n 2, 1) := by decide +kernel
theorem d1_11 : decode prog_70_method_1_code 11 = .ok (.putfield 13, 3) := by decide +kernel
theorem d1_14 : decode prog_70_method_1_code 14 = .ok (.return_, 1) := by decide +kernel
theorem pn_1 : plainName "com/example/hemalink/hemalink/lis/Mllp$Block" = true := by first | (simp [plainName, overriddenIn]; done) | decide +kernel
theorem pd_1_1 : parseMethodDescriptor "()V" = some ⟨[], none⟩ := by decide +kernel
theorem ef_1 (m : MethodId) (x0 : Addr) (x1 : Addr) (x2 : Int64) : entryFrame m #[(.ref x0), (.ref x1), (.long x2)] 4 = mkF m 0 #[.val (.ref x0), .val (.ref x1), .val (.long x2), .second] [] := by first | (simp [entryFrame, mkF, argsToLocals, Value.category]; done) | rfl
def Q1 (Z : State) (a1 : Addr) (a2 : Addr) (q3 : Int64) (u_message_a1 : Value) (u_length_a1 : Value) (h0 : Heap) (n0 : Nat) (v : Option Value) (h : Heap) (L : List Loc) : Prop := v = none ∧ Fr n0 L ∧ Keep h0 h [a1] ∧ Exa Z h a1 "com/example/hemalink/hemalink/lis/Mllp$Block" ∧ Fld Z h a1 "com/example/hemalink/hemalink/lis/Mllp$Block" "message" "[B" (.ref a2) ∧ Fld Z h a1 "com/example/hemalink/hemalink/lis/Mllp$Block" "length" "J" (.long q3)
set_option maxRecDepth 65536 in
set_option maxHeartbeats 40000000 in
theorem rm1 (l : Launch) (Z : State) (a0 : Array Value) (hw : ∀ d ∈ tables_1, d.before a0 Z = true) (ws : List Jvm.Cond) (a1 : Addr) (a2 : Addr) (q3 : Int64) (u_message_a1 : Value) (u_length_a1 : Value) (h0 : Heap) (n0 : Nat) (Z0 : n0 ≤ h0.size) (E_a1 : Exa Z h0 a1 "com/example/hemalink/hemalink/lis/Mllp$Block") (F_message_a1 : Fld Z h0 a1 "com/example/hemalink/hemalink/lis/Mllp$Block" "message" "[B" u_message_a1) (g_a1 : n0 ≤ a1) (F_length_a1 : Fld Z h0 a1 "com/example/hemalink/hemalink/lis/Mllp$Block" "length" "J" u_length_a1) :
    MetFree l (⟨"com/example/hemalink/hemalink/lis/Mllp$Block", "<init>", "([BJ)V"⟩ : MethodName) (head1 (Jvm.Cond.code (⟨"com/example/hemalink/hemalink/lis/Mllp$Block", "<init>", "([BJ)V"⟩ : MethodName) prog_70_method_1_code 4 none :: ws) ({ frames := 2, cells := 0, slots := 0, locals := 24 } : Room)) (fun a U => a = #[(.ref a1), (.ref a2), (.long q3)] ∧ Z.Warmed39 U.vm ∧ U.heap = h0) (fun _ _ _ _ _ => True) (fun _ U o U' => ∃ v L, o = .returned v ∧ Q1 Z a1 a2 q3 u_message_a1 u_length_a1 h0 n0 v U'.heap L ∧ FrameEnd U o U' L ({ frames := 2, cells := 0, slots := 0, locals := 24 } : Room).cells ({ frames := 2, cells := 0, slots := 0, locals := 24 } : Room).slots) := by
  refine MetFree.of_bodySF (plainFor_of_name pn_1) hisR ?_
  intro p e s m args below meth c s₁ Bd hml0 hP hK
  obtain ⟨rfl, hZ, hh⟩ := hP
  have hx := Bd.exec
  have hby := Bd.bytes
  have hml : c.maxLocals = 4 := hml0
  have hown : s.vm.findClass "com/example/hemalink/hemalink/lis/Mllp$Block" = some m.cls := findClass_of_methodNamed Bd.named
  have hnm := (name_of_methodNamed Bd.named Bd.method).1
  have X0 : Stand p l e ({ frames := 2, cells := 0, slots := 0, locals := 24 } : Room) s m #[(.ref a1), (.ref a2), (.long q3)] below meth c s₁ [] 0 0 := Stand.of_body Bd
  have e0 : s₁.heap = h0 := by rw [← hh, Bd.state]; rfl
  have N0 := Fr.nil n0
  have pre0 : ∀ t, Steps p.tables e below (s₁.setTop (mkF m 0 #[.val (.ref a1), .val (.ref a2), .val (.long q3), .second] [])) t → Steps p.tables e below (s₁.setTop (entryFrame m #[(.ref a1), (.ref a2), (.long q3)] 4)) t := fun t k => castTop (ef_1 m a1 a2 q3) k
  obtain ⟨_, _, ⟨T4, L4, k4, n4⟩, -, X4, ⟨Lc4, hQ4, l4, y4, z4⟩, st4⟩ := X0.specialBack hx (y := (⟨"java/lang/Record", "<init>", "()V"⟩ : MethodName)) rfl hown (mvT hZ (hw _ (List.mem_of_getElem? (i := 7) rfl))) (mvT hZ (hw _ (List.mem_of_getElem? (i := 8) rfl))) (mvT hZ (hw _ (List.mem_of_getElem? (i := 11) rfl))) (by decide) (backOf (W := 0) (rm2 l Z a0 hw [] a1 h0 n0 Z0) hZ (hw _ (List.mem_of_getElem? (i := 11) rfl)) (hw _ (List.mem_of_getElem? (i := 10) rfl)) (by decide) (by decide)) (g := (mkF m 1 #[.val (.ref a1), .val (.ref a2), .val (.long q3), .second] [(.ref a1)])) rfl (by rw [hml]; rfl) (Steps.refl _) (a := a1) (argsL := []) (rest := []) (lenOf pd_1_1 rfl) rfl (by show 2 * 0 + _ ≤ _; exact Nat.le_of_eq rfl) (hb hby d1_1) (fun _ _ => ⟨rfl, e0, (by decide : 0 + 0 ≤ _), (by decide : 0 + 0 ≤ _)⟩)
  dsimp only [Pt.U, Pt.locs, Pt.cells, Pt.slots] at X4 l4 y4 z4 st4 hQ4
  subst l4 y4 z4
  obtain ⟨rfl, N4q, e4⟩ := hQ4
  have N4 := Fr.app N0 N4q
  obtain ⟨T5, h5, X5, e5, W5, st5⟩ := putF X4 hx hZ hown (host := "") (Or.inl (hw _ (List.mem_of_getElem? (i := 15) rfl))) Via.refl e4 F_message_a1 E_a1 (Or.inr ⟨(hw _ (List.mem_of_getElem? (i := 16) rfl)), rfl, hnm⟩) (hw _ (List.mem_of_getElem? (i := 2) rfl)) (ty := (.array .byte)) (by decide) rfl rfl (g := (mkF m 6 #[.val (.ref a1), .val (.ref a2), .val (.long q3), .second] [(.ref a2), (.ref a1)])) rfl rfl (hb hby d1_6)
  have Fw5 := F_message_a1.same W5
  have K5 : Keep h0 h5 [a1] := (Keep.refl h0 [a1]).wr W5 (Or.inl (List.mem_of_getElem? (i := 0) rfl))
  have N5 := Fr.snoc X5 N4 g_a1
  obtain ⟨T6, h6, X6, e6, W6, st6⟩ := putF X5 hx hZ hown (host := "") (Or.inl (hw _ (List.mem_of_getElem? (i := 17) rfl))) Via.refl e5 (F_length_a1.other W5 (Or.inr (slot_ne (Or.inr (hw _ (List.mem_of_getElem? (i := 18) rfl))) (Or.inr (hw _ (List.mem_of_getElem? (i := 16) rfl))) (by decide) (t := .long) (t' := (.array .byte)) (by decide) (by decide)))) (E_a1.wr W5) (Or.inr ⟨(hw _ (List.mem_of_getElem? (i := 18) rfl)), rfl, hnm⟩) (hw _ (List.mem_of_getElem? (i := 2) rfl)) (ty := .long) (by decide) rfl rfl (g := (mkF m 11 #[.val (.ref a1), .val (.ref a2), .val (.long q3), .second] [(.long q3), (.ref a1)])) rfl rfl (hb hby d1_11)
  have Fw6 := (F_length_a1.other W5 (Or.inr (slot_ne (Or.inr (hw _ (List.mem_of_getElem? (i := 18) rfl))) (Or.inr (hw _ (List.mem_of_getElem? (i := 16) rfl))) (by decide) (t := .long) (t' := (.array .byte)) (by decide) (by decide)))).same W6
  have K6 : Keep h0 h6 [a1] := K5.wr W6 (Or.inl (List.mem_of_getElem? (i := 0) rfl))
  have N6 := Fr.snoc X6 N5 g_a1
  obtain ⟨fs, hr, hrun, hended, hW, hsame⟩ := X6.leave (v := none) (fun _ => rfl)
  refine ⟨_, _, pre0 _ ?_, hrun, hended, _, _, rfl, ?_, ⟨_, rfl⟩, hW, hsame.mono (by decide) (by decide)⟩
  · show Steps p.tables e below (s₁.setTop (mkF m 0 #[.val (.ref a1), .val (.ref a2), .val (.long q3), .second] [])) _
    refine XS.aloadN X0.here hx rfl (hb hby d1_0) rfl rfl ?_
    show Steps p.tables e below (s₁.setTop (mkF m 1 #[.val (.ref a1), .val (.ref a2), .val (.long q3), .second] [(.ref a1)])) _
    refine st4.trans ?_
    show Steps p.tables e below (T4.setTop (mkF m 4 #[.val (.ref a1), .val (.ref a2), .val (.long q3), .second] [])) _
    refine XS.aloadN X4.here hx rfl (hb hby d1_4) rfl rfl ?_
    show Steps p.tables e below (T4.setTop (mkF m 5 #[.val (.ref a1), .val (.ref a2), .val (.long q3), .second] [(.ref a1)])) _
    refine XS.aloadN X4.here hx rfl (hb hby d1_5) rfl rfl ?_
    show Steps p.tables e below (T4.setTop (mkF m 6 #[.val (.ref a1), .val (.ref a2), .val (.long q3), .second] [(.ref a2), (.ref a1)])) _
    refine st5 _ ?_
    show Steps p.tables e below (T5.setTop (mkF m 9 #[.val (.ref a1), .val (.ref a2), .val (.long q3), .second] [])) _
    refine XS.aloadN X5.here hx rfl (hb hby d1_9) rfl rfl ?_
    show Steps p.tables e below (T5.setTop (mkF m 10 #[.val (.ref a1), .val (.ref a2), .val (.long q3), .second] [(.ref a1)])) _
    refine XS.lloadN X5.here hx rfl (hb hby d1_10) rfl ?_
    show Steps p.tables e below (T5.setTop (mkF m 11 #[.val (.ref a1), .val (.ref a2), .val (.long q3), .second] [(.long q3), (.ref a1)])) _
    refine st6 _ ?_
    show Steps p.tables e below (T6.setTop (mkF m 14 #[.val (.ref a1), .val (.ref a2), .val (.long q3), .second] [])) _
    exact X6.returnOut hx Bd.returns (hb hby d1_14) hr
  · show Q1 Z a1 a2 q3 u_message_a1 u_length_a1 h0 n0 _ T6.heap _
    rw [e6]
    exact ⟨rfl, N6, K6, ((E_a1.wr W5).wr W6), (Fw5.other W6 (Or.inr (slot_ne (Or.inr (hw _ (List.mem_of_getElem? (i := 16) rfl))) (Or.inr (hw _ (List.mem_of_getElem? (i := 18) rfl))) (by decide) (t := (.array .byte)) (t' := .long) (by decide) (by decide)))), Fw6⟩
theorem pd_1 : parseMethodDescriptor "([BJ)V" = some ⟨[(.array .byte), .long], none⟩ := by decide +kernel
theorem d4_0 : decode prog_70_method_2_code 0 = .ok (.aload_n 0, 1) := by decide +kernel
theorem d4_1 : decode prog_70_method_2_code 1 = .ok (.getfield 13, 3) := by decide +kernel
theorem d4_4 : decode prog_70_method_2_code 4 = .ok (.aload_n 0, 1) := by decide +kernel
theorem d4_5 : decode prog_70_method_2_code 5 = .ok (.getfield 7, 3) := by decide +kernel
theorem d4_8 : decode prog_70_method_2_code 8 = .ok (.arraylength, 1) := by decide +kernel
theorem d4_9 : decode prog_70_method_2_code 9 = .ok (.i2l, 1) := by decide +kernel
theorem d4_10 : decode prog_70_method_2_code 10 = .ok (.lcmp, 1) := by decide +kernel
theorem d4_11 : decode prog_70_method_2_code 11 = .ok (.ifCond .ne 7, 3) := by decide +kernel
theorem d4_14 : decode prog_70_method_2_code 14 = .ok (.iconst 1, 1) := by decide +kernel
theorem d4_15 : decode prog_70_method_2_code 15 = .ok (.goto 4, 3) := by decide +kernel
theorem d4_18 : decode prog_70_method_2_code 18 = .ok (.iconst 0, 1) := by decide +kernel
theorem d4_19 : decode prog_70_method_2_code 19 = .ok (.ireturn, 1) := by decide +kernel
theorem pn_4 : plainName "com/example/hemalink/hemalink/lis/Mllp$Block" = true := by first | (simp [plainName, overriddenIn]; done) | decide +kernel
theorem pd_4 : parseMethodDescriptor "()Z" = some ⟨[], some .boolean⟩ := by decide +kernel
theorem ef_4 (m : MethodId) (x0 : Addr) : entryFrame m #[(.ref x0)] 1 = mkF m 0 #[.val (.ref x0)] [] := by first | (simp [entryFrame, mkF, argsToLocals, Value.category]; done) | rfl
def own_whole (w2 : Int64) (z : Int32) : Int32 := (if w2 = z.toInt64 then (1 : Int32) else (0 : Int32))
def Q4 (Z : State) (a1 : Addr) (w2 : Int64) (w4 : Addr) (cl : Cell) (zz : Int32) (h0 : Heap) (n0 : Nat) (v : Option Value) (h : Heap) (L : List Loc) : Prop := v = some (.int (own_whole w2 zz)) ∧ Fr n0 L ∧ h = h0
set_option maxRecDepth 65536 in
set_option maxHeartbeats 40000000 in
theorem rm4 (l : Launch) (Z : State) (a0 : Array Value) (hw : ∀ d ∈ tables_1, d.before a0 Z = true) (ws : List Jvm.Cond) (a1 : Addr) (w2 : Int64) (w4 : Addr) (cl : Cell) (zz : Int32) (h0 : Heap) (n0 : Nat) (Z0 : n0 ≤ h0.size) (Fl : Fld Z h0 a1 "com/example/hemalink/hemalink/lis/Mllp$Block" "length" "J" (.long w2)) (Fm : Fld Z h0 a1 "com/example/hemalink/hemalink/lis/Mllp$Block" "message" "[B" (.ref w4)) (Ar : Arr Z h0 w4 cl .byte) (Sz : cl.slots.size = zz.toNatClampNeg) (Nz : ¬ zz < 0) :
    MetFree l (⟨"com/example/hemalink/hemalink/lis/Mllp$Block", "whole", "()Z"⟩ : MethodName) (head1 (Jvm.Cond.code (⟨"com/example/hemalink/hemalink/lis/Mllp$Block", "whole", "()Z"⟩ : MethodName) prog_70_method_2_code 1 (some .boolean) :: ws) ({ frames := 0, cells := 0, slots := 0, locals := 0 } : Room)) (fun a U => a = #[(.ref a1)] ∧ Z.Warmed39 U.vm ∧ U.heap = h0) (fun _ _ _ _ _ => True) (fun _ U o U' => ∃ v L, o = .returned v ∧ Q4 Z a1 w2 w4 cl zz h0 n0 v U'.heap L ∧ FrameEnd U o U' L ({ frames := 0, cells := 0, slots := 0, locals := 0 } : Room).cells ({ frames := 0, cells := 0, slots := 0, locals := 0 } : Room).slots) := by
  refine MetFree.of_bodySF (plainFor_of_name pn_4) hisR ?_
  intro p e s m args below meth c s₁ Bd hml0 hP hK
  obtain ⟨rfl, hZ, hh⟩ := hP
  have hx := Bd.exec
  have hby := Bd.bytes
  have hml : c.maxLocals = 1 := hml0
  have hown : s.vm.findClass "com/example/hemalink/hemalink/lis/Mllp$Block" = some m.cls := findClass_of_methodNamed Bd.named
  have hnm := (name_of_methodNamed Bd.named Bd.method).1
  have X0 : Stand p l e ({ frames := 0, cells := 0, slots := 0, locals := 0 } : Room) s m #[(.ref a1)] below meth c s₁ [] 0 0 := Stand.of_body Bd
  have e0 : s₁.heap = h0 := by rw [← hh, Bd.state]; rfl
  have N0 := Fr.nil n0
  have pre0 : ∀ t, Steps p.tables e below (s₁.setTop (mkF m 0 #[.val (.ref a1)] [])) t → Steps p.tables e below (s₁.setTop (entryFrame m #[(.ref a1)] 1)) t := fun t k => castTop (ef_4 m a1) k
  obtain ⟨T3, X3, e3, st3⟩ := getF X0 hx hZ hown (host := "") (Or.inl (hw _ (List.mem_of_getElem? (i := 17) rfl))) Via.refl e0 Fl (g := (mkF m 1 #[.val (.ref a1)] [(.ref a1)])) rfl rfl (hb hby d4_1)
  obtain ⟨T5, X5, e5, st5⟩ := getF X3 hx hZ hown (host := "") (Or.inl (hw _ (List.mem_of_getElem? (i := 15) rfl))) Via.refl e3 Fm (g := (mkF m 5 #[.val (.ref a1)] [(.ref a1), (.long w2)])) rfl rfl (hb hby d4_5)
  obtain ⟨r, er⟩ : ∃ r : Int32, r = own_whole w2 zz := ⟨_, rfl⟩
  obtain ⟨fs, hr, hrun, hended, hW, hsame⟩ := X5.leave (v := some (.int r)) (fun h => by rw [Bd.returns] at h; cases h)
  refine ⟨_, _, pre0 _ ?_, hrun, hended, _, _, rfl, ?_, ⟨_, rfl⟩, hW, hsame.mono (by decide) (by decide)⟩
  ·
    show Steps p.tables e below (s₁.setTop (mkF m 0 #[.val (.ref a1)] [])) _
    refine XS.aloadN X0.here hx rfl (hb hby d4_0) rfl rfl ?_
    show Steps p.tables e below (s₁.setTop (mkF m 1 #[.val (.ref a1)] [(.ref a1)])) _
    refine st3 _ ?_
    show Steps p.tables e below (T3.setTop (mkF m 4 #[.val (.ref a1)] [(.long w2)])) _
    refine XS.aloadN X3.here hx rfl (hb hby d4_4) rfl rfl ?_
    show Steps p.tables e below (T3.setTop (mkF m 5 #[.val (.ref a1)] [(.ref a1), (.long w2)])) _
    refine st5 _ ?_
    show Steps p.tables e below (T5.setTop (mkF m 8 #[.val (.ref a1)] [(.ref w4), (.long w2)])) _
    refine X5.arraylength hx (by rw [e5]; exact Ar.1) (State.isArrayOf_alike hZ.alike Ar.2.1) (g := (mkF m 8 #[.val (.ref a1)] [(.ref w4), (.long w2)])) rfl rfl (hb hby d4_8) _ ?_
    rw [len_of Sz Nz]
    show Steps p.tables e below (T5.setTop (mkF m 9 #[.val (.ref a1)] [(.int zz), (.long w2)])) _
    refine XS.i2l X5.here hx rfl (hb hby d4_9) rfl ?_
    show Steps p.tables e below (T5.setTop (mkF m 10 #[.val (.ref a1)] [(.long (zz.toInt64)), (.long w2)])) _
    refine XS.lcmp X5.here hx rfl (hb hby d4_10) rfl ?_
    by_cases cc0 : w2 = (zz.toInt64)
    · show Steps p.tables e below (T5.setTop (mkF m 11 #[.val (.ref a1)] [(.int (lcmpW w2 (zz.toInt64)))])) _
      refine XS.ifNo X5.here hx rfl (hb hby d4_11) rfl ((if0 _ _).trans (teq ((lw_eq _ _).mpr cc0)).2) ?_
      show Steps p.tables e below (T5.setTop (mkF m 14 #[.val (.ref a1)] [])) _
      refine XS.iconst X5.here hx rfl (hb hby d4_14) ?_
      show Steps p.tables e below (T5.setTop (mkF m 15 #[.val (.ref a1)] [(.int (1 : Int32))])) _
      refine XS.goto X5.here hx rfl (pc0 := 15) (pc' := 19) rfl (hb hby d4_15) (by decide) (by decide) ?_
      rw [show r = (1 : Int32) from er.trans (by rw [own_whole, if_pos cc0])] at hr
      show Steps p.tables e below (T5.setTop (mkF m 19 #[.val (.ref a1)] [(.int (1 : Int32))])) _
      exact retN X5 hx (t := .boolean) Bd.returns (by simp) (hb hby d4_19) hr
    · show Steps p.tables e below (T5.setTop (mkF m 11 #[.val (.ref a1)] [(.int (lcmpW w2 (zz.toInt64)))])) _
      refine XS.ifYes X5.here hx rfl (pc0 := 11) (pc' := 18) rfl (hb hby d4_11) rfl ((if0 _ _).trans (feq (fun z => cc0 ((lw_eq _ _).mp z))).2) (by decide) (by decide) ?_
      show Steps p.tables e below (T5.setTop (mkF m 18 #[.val (.ref a1)] [])) _
      refine XS.iconst X5.here hx rfl (hb hby d4_18) ?_
      rw [show r = (0 : Int32) from er.trans (by rw [own_whole, if_neg cc0])] at hr
      show Steps p.tables e below (T5.setTop (mkF m 19 #[.val (.ref a1)] [(.int (0 : Int32))])) _
      exact retN X5 hx (t := .boolean) Bd.returns (by simp) (hb hby d4_19) hr
  · show Q4 Z a1 w2 w4 cl zz h0 n0 _ T5.heap _
    exact ⟨by rw [er], N0, e5⟩
theorem d5_0 : decode prog_70_method_7_code 0 = .ok (.aload_n 0, 1) := by decide +kernel
theorem d5_1 : decode prog_70_method_7_code 1 = .ok (.getfield 13, 3) := by decide +kernel
theorem d5_4 : decode prog_70_method_7_code 4 = .ok (.lreturn, 1) := by decide +kernel
theorem pn_5 : plainName "com/example/hemalink/hemalink/lis/Mllp$Block" = true := by first | (simp [plainName, overriddenIn]; done) | decide +kernel
theorem ef_5 (m : MethodId) (x0 : Addr) : entryFrame m #[(.ref x0)] 1 = mkF m 0 #[.val (.ref x0)] [] := by first | (simp [entryFrame, mkF, argsToLocals, Value.category]; done) | rfl
def Q5 (Z : State) (a1 : Addr) (w2 : Int64) (h0 : Heap) (n0 : Nat) (v : Option Value) (h : Heap) (L : List Loc) : Prop := v = some (.long w2) ∧ Fr n0 L ∧ h = h0
set_option maxRecDepth 65536 in
set_option maxHeartbeats 40000000 in
theorem rm5 (l : Launch) (Z : State) (a0 : Array Value) (hw : ∀ d ∈ tables_1, d.before a0 Z = true) (ws : List Jvm.Cond) (a1 : Addr) (w2 : Int64) (h0 : Heap) (n0 : Nat) (Z0 : n0 ≤ h0.size) (F_length_a1 : Fld Z h0 a1 "com/example/hemalink/hemalink/lis/Mllp$Block" "length" "J" (.long w2)) :
    MetFree l (⟨"com/example/hemalink/hemalink/lis/Mllp$Block", "length", "()J"⟩ : MethodName) (head1 (Jvm.Cond.code (⟨"com/example/hemalink/hemalink/lis/Mllp$Block", "length", "()J"⟩ : MethodName) prog_70_method_7_code 1 (some .long) :: ws) ({ frames := 0, cells := 0, slots := 0, locals := 0 } : Room)) (fun a U => a = #[(.ref a1)] ∧ Z.Warmed39 U.vm ∧ U.heap = h0) (fun _ _ _ _ _ => True) (fun _ U o U' => ∃ v L, o = .returned v ∧ Q5 Z a1 w2 h0 n0 v U'.heap L ∧ FrameEnd U o U' L ({ frames := 0, cells := 0, slots := 0, locals := 0 } : Room).cells ({ frames := 0, cells := 0, slots := 0, locals := 0 } : Room).slots) := by
  refine MetFree.of_bodySF (plainFor_of_name pn_5) hisR ?_
  intro p e s m args below meth c s₁ Bd hml0 hP hK
  obtain ⟨rfl, hZ, hh⟩ := hP
  have hx := Bd.exec
  have hby := Bd.bytes
  have hml : c.maxLocals = 1 := hml0
  have hown : s.vm.findClass "com/example/hemalink/hemalink/lis/Mllp$Block" = some m.cls := findClass_of_methodNamed Bd.named
  have hnm := (name_of_methodNamed Bd.named Bd.method).1
  have X0 : Stand p l e ({ frames := 0, cells := 0, slots := 0, locals := 0 } : Room) s m #[(.ref a1)] below meth c s₁ [] 0 0 := Stand.of_body Bd
  have e0 : s₁.heap = h0 := by rw [← hh, Bd.state]; rfl
  have N0 := Fr.nil n0
  have pre0 : ∀ t, Steps p.tables e below (s₁.setTop (mkF m 0 #[.val (.ref a1)] [])) t → Steps p.tables e below (s₁.setTop (entryFrame m #[(.ref a1)] 1)) t := fun t k => castTop (ef_5 m a1) k
  obtain ⟨T3, X3, e3, st3⟩ := getF X0 hx hZ hown (host := "") (Or.inl (hw _ (List.mem_of_getElem? (i := 17) rfl))) Via.refl e0 F_length_a1 (g := (mkF m 1 #[.val (.ref a1)] [(.ref a1)])) rfl rfl (hb hby d5_1)
  obtain ⟨fs, hr, hrun, hended, hW, hsame⟩ := X3.leave (v := some (.long w2)) (fun h => by rw [Bd.returns] at h; cases h)
  refine ⟨_, _, pre0 _ ?_, hrun, hended, _, _, rfl, ?_, ⟨_, rfl⟩, hW, hsame.mono (by decide) (by decide)⟩
  · show Steps p.tables e below (s₁.setTop (mkF m 0 #[.val (.ref a1)] [])) _
    refine XS.aloadN X0.here hx rfl (hb hby d5_0) rfl rfl ?_
    show Steps p.tables e below (s₁.setTop (mkF m 1 #[.val (.ref a1)] [(.ref a1)])) _
    refine st3 _ ?_
    show Steps p.tables e below (T3.setTop (mkF m 4 #[.val (.ref a1)] [(.long w2)])) _
    jvm_step X3.here [X3.here.top, hx, (hb hby d5_4), X3.method', Bd.returns, narrow]
    first | (intro acts; rw [hr _ acts rfl rfl rfl]) | rw [hr _ _ rfl rfl rfl]
    exact Steps.refl _
  · show Q5 Z a1 w2 h0 n0 _ T3.heap _
    rw [e3]
    exact ⟨rfl, N0, rfl⟩
theorem pd_5 : parseMethodDescriptor "()J" = some ⟨[], some .long⟩ := by decide +kernel
theorem d6_0 : decode prog_70_method_6_code 0 = .ok (.aload_n 0, 1) := by decide +kernel
theorem d6_1 : decode prog_70_method_6_code 1 = .ok (.getfield 7, 3) := by decide +kernel
theorem d6_4 : decode prog_70_method_6_code 4 = .ok (.areturn, 1) := by decide +kernel
theorem pn_6 : plainName "com/example/hemalink/hemalink/lis/Mllp$Block" = true := by first | (simp [plainName, overriddenIn]; done) | decide +kernel
theorem ef_6 (m : MethodId) (x0 : Addr) : entryFrame m #[(.ref x0)] 1 = mkF m 0 #[.val (.ref x0)] [] := by first | (simp [entryFrame, mkF, argsToLocals, Value.category]; done) | rfl
def Q6 (Z : State) (a1 : Addr) (w2 : Addr) (h0 : Heap) (n0 : Nat) (v : Option Value) (h : Heap) (L : List Loc) : Prop := v = some (.ref w2) ∧ Fr n0 L ∧ h = h0
set_option maxRecDepth 65536 in
set_option maxHeartbeats 40000000 in
theorem rm6 (l : Launch) (Z : State) (a0 : Array Value) (hw : ∀ d ∈ tables_1, d.before a0 Z = true) (ws : List Jvm.Cond) (a1 : Addr) (w2 : Addr) (h0 : Heap) (n0 : Nat) (Z0 : n0 ≤ h0.size) (F_message_a1 : Fld Z h0 a1 "com/example/hemalink/hemalink/lis/Mllp$Block" "message" "[B" (.ref w2)) :
    MetFree l (⟨"com/example/hemalink/hemalink/lis/Mllp$Block", "message", "()[B"⟩ : MethodName) (head1 (Jvm.Cond.code (⟨"com/example/hemalink/hemalink/lis/Mllp$Block", "message", "()[B"⟩ : MethodName) prog_70_method_6_code 1 (some (.array .byte)) :: ws) ({ frames := 0, cells := 0, slots := 0, locals := 0 } : Room)) (fun a U => a = #[(.ref a1)] ∧ Z.Warmed39 U.vm ∧ U.heap = h0) (fun _ _ _ _ _ => True) (fun _ U o U' => ∃ v L, o = .returned v ∧ Q6 Z a1 w2 h0 n0 v U'.heap L ∧ FrameEnd U o U' L ({ frames := 0, cells := 0, slots := 0, locals := 0 } : Room).cells ({ frames := 0, cells := 0, slots := 0, locals := 0 } : Room).slots) := by
  refine MetFree.of_bodySF (plainFor_of_name pn_6) hisR ?_
  intro p e s m args below meth c s₁ Bd hml0 hP hK
  obtain ⟨rfl, hZ, hh⟩ := hP
  have hx := Bd.exec
  have hby := Bd.bytes
  have hml : c.maxLocals = 1 := hml0
  have hown : s.vm.findClass "com/example/hemalink/hemalink/lis/Mllp$Block" = some m.cls := findClass_of_methodNamed Bd.named
  have hnm := (name_of_methodNamed Bd.named Bd.method).1
  have X0 : Stand p l e ({ frames := 0, cells := 0, slots := 0, locals := 0 } : Room) s m #[(.ref a1)] below meth c s₁ [] 0 0 := Stand.of_body Bd
  have e0 : s₁.heap = h0 := by rw [← hh, Bd.state]; rfl
  have N0 := Fr.nil n0
  have pre0 : ∀ t, Steps p.tables e below (s₁.setTop (mkF m 0 #[.val (.ref a1)] [])) t → Steps p.tables e below (s₁.setTop (entryFrame m #[(.ref a1)] 1)) t := fun t k => castTop (ef_6 m a1) k
  obtain ⟨T3, X3, e3, st3⟩ := getF X0 hx hZ hown (host := "") (Or.inl (hw _ (List.mem_of_getElem? (i := 15) rfl))) Via.refl e0 F_message_a1 (g := (mkF m 1 #[.val (.ref a1)] [(.ref a1)])) rfl rfl (hb hby d6_1)
  obtain ⟨fs, hr, hrun, hended, hW, hsame⟩ := X3.leave (v := some (.ref w2)) (fun h => by rw [Bd.returns] at h; cases h)
  refine ⟨_, _, pre0 _ ?_, hrun, hended, _, _, rfl, ?_, ⟨_, rfl⟩, hW, hsame.mono (by decide) (by decide)⟩
  · show Steps p.tables e below (s₁.setTop (mkF m 0 #[.val (.ref a1)] [])) _
    refine XS.aloadN X0.here hx rfl (hb hby d6_0) rfl rfl ?_
    show Steps p.tables e below (s₁.setTop (mkF m 1 #[.val (.ref a1)] [(.ref a1)])) _
    refine st3 _ ?_
    show Steps p.tables e below (T3.setTop (mkF m 4 #[.val (.ref a1)] [(.ref w2)])) _
    jvm_step X3.here [X3.here.top, hx, (hb hby d6_4), X3.method', Bd.returns, Value.isRef, FieldType.isReference]
    first | (intro acts; rw [hr _ acts rfl rfl rfl]) | rw [hr _ _ rfl rfl rfl]
    exact Steps.refl _
  · show Q6 Z a1 w2 h0 n0 _ T3.heap _
    rw [e3]
    exact ⟨rfl, N0, rfl⟩
theorem pd_6 : parseMethodDescriptor "()[B" = some ⟨[], some (.array .byte)⟩ := by decide +kernel
def own_l (nn : Int32) (kk : Int32) (q2 : Int64) : Int64 := (if kk = (0 : Int32) then (nn.toInt64) else (if kk = (1 : Int32) then ((nn.toInt64) + (1 : Int64)) else (if kk = (2 : Int32) then ((nn.toInt64) - (1 : Int64)) else (if q2 < (0 : Int64) then q2 else (if (7 : Int64) < q2 then q2 else (if (q2.toInt32) = nn then q2 else q2))))))
def own_x (nn : Int32) (kk : Int32) (q2 : Int64) : Int32 := (if kk = (0 : Int32) then (1 : Int32) else (if kk = (1 : Int32) then (0 : Int32) else (if kk = (2 : Int32) then (0 : Int32) else (if q2 < (0 : Int64) then (0 : Int32) else (if (7 : Int64) < q2 then (0 : Int32) else (if (q2.toInt32) = nn then (1 : Int32) else (0 : Int32)))))))
theorem own_n7 (p : Int32) : (¬ (p &&& (7 : Int32)) < 0) ∧ (p &&& (7 : Int32)).toNatClampNeg ≤ 7 := by
  have e : (p &&& (7 : Int32)).toInt = p.toInt % 2 ^ 3 := Jvm.Kit.i32_mask p 7 (k := 3) (by decide) (by decide)
  have e0 : (0 : Int32).toInt = 0 := rfl
  constructor
  · rw [Int32.lt_iff_toInt_lt, e0]; omega
  · show (p &&& (7 : Int32)).toInt.toNat ≤ 7
    omega
theorem own_plain (p kk : Int32) (q : Int64) : own_whole (own_l (p &&& (7 : Int32)) kk q) (p &&& (7 : Int32)) = own_x (p &&& (7 : Int32)) kk q := by
  have e : (p &&& (7 : Int32)).toInt = p.toInt % 2 ^ 3 := Jvm.Kit.i32_mask p 7 (k := 3) (by decide) (by decide)
  generalize p &&& (7 : Int32) = n at *
  have h1 : 0 ≤ n.toInt := by omega
  have h2 : n.toInt ≤ 7 := by omega
  have n64 : n.toInt64.toInt = n.toInt := Int32.toInt_toInt64 n
  have c0 : (0 : Int64).toInt = 0 := rfl
  have c1 : (1 : Int64).toInt = 1 := rfl
  have c7 : (7 : Int64).toInt = 7 := rfl
  have a1 : (n.toInt64 + 1).toInt = n.toInt + 1 := by rw [Jvm.Kit.i64_add (by omega) (by omega), n64, c1]
  have a2 : (n.toInt64 - 1).toInt = n.toInt - 1 := by rw [Jvm.Kit.i64_sub (by omega) (by omega), n64, c1]
  have l32 : 0 ≤ q.toInt → q.toInt ≤ 7 → q.toInt32.toInt = q.toInt := fun x y => Jvm.Kit.i32_of_i64 (by omega) (by omega)
  unfold own_l own_x own_whole
  by_cases k0 : kk = 0
  · rw [if_pos k0, if_pos k0, if_pos rfl]
  · rw [if_neg k0, if_neg k0]
    by_cases k1 : kk = 1
    · rw [if_pos k1, if_pos k1, if_neg (by rw [← Int64.toInt_inj, a1, n64]; omega)]
    · rw [if_neg k1, if_neg k1]
      by_cases k2 : kk = 2
      · rw [if_pos k2, if_pos k2, if_neg (by rw [← Int64.toInt_inj, a2, n64]; omega)]
      · rw [if_neg k2, if_neg k2]
        by_cases h3 : q < 0
        · rw [if_pos h3, if_pos h3, if_neg (by rw [Int64.lt_iff_toInt_lt, c0] at h3; rw [← Int64.toInt_inj, n64]; omega)]
        · rw [if_neg h3, if_neg h3]
          by_cases h4 : 7 < q
          · rw [if_pos h4, if_pos h4, if_neg (by rw [Int64.lt_iff_toInt_lt, c7] at h4; rw [← Int64.toInt_inj, n64]; omega)]
          · rw [if_neg h4, if_neg h4]
            rw [Int64.lt_iff_toInt_lt, c0] at h3
            rw [Int64.lt_iff_toInt_lt, c7] at h4
            have e5 := l32 (by omega) (by omega)
            by_cases h5 : q.toInt32 = n
            · rw [if_pos h5, if_pos h5, if_pos (by rw [← Int64.toInt_inj, n64, ← h5, e5])]
            · rw [if_neg h5, if_neg h5, if_neg (fun z => h5 (by rw [← Int32.toInt_inj, e5, z, n64]))]
theorem pn_0 : plainName "com/example/hemalink/hemalink/lis/BlockWholePinLaw" = true := by first | (simp [plainName, overriddenIn]; done) | decide +kernel
theorem ef_0 (m : MethodId) (x0 : Int32) (x1 : Int64) (x2 : Int32) : entryFrame m #[(.int x0), (.long x1), (.int x2)] maxLocals = mkF m 0 #[.val (.int x0), .val (.long x1), .second, .val (.int x2), .unset, .unset, .unset, .unset, .unset, .unset, .unset, .unset] [] := by first | (simp [entryFrame, mkF, argsToLocals, Value.category, maxLocals]; done) | rfl
def Q0 (Z : State) (p1 : Int32) (q2 : Int64) (p3 : Int32) (h0 : Heap) (n0 : Nat) (v : Option Value) (h : Heap) (L : List Loc) : Prop := v = some (.int 1) ∧ Fr n0 L
set_option maxRecDepth 65536 in
set_option maxHeartbeats 40000000 in
theorem rm0 (l : Launch) (Z : State) (a0 : Array Value) (hw : ∀ d ∈ tables_1, d.before a0 Z = true) (ws : List Jvm.Cond) (p1 : Int32) (q2 : Int64) (p3 : Int32) (h0 : Heap) (n0 : Nat) (Z0 : n0 ≤ h0.size) :
    MetFree l x (head1 (Jvm.Cond.code x code maxLocals ret :: ws) room_1) (fun a U => a = #[(.int p1), (.long q2), (.int p3)] ∧ Z.Warmed39 U.vm ∧ U.heap = h0) (fun _ _ _ _ _ => True) (fun _ U o U' => ∃ v L, o = .returned v ∧ Q0 Z p1 q2 p3 h0 n0 v U'.heap L ∧ FrameEnd U o U' L room_1.cells room_1.slots) := by
  refine MetFree.of_bodySF (plainFor_of_name pn_0) hisR ?_
  intro p e s m args below meth c s₁ Bd hml0 hP hK
  obtain ⟨rfl, hZ, hh⟩ := hP
  have hx := Bd.exec
  have hby := Bd.bytes
  have hml : c.maxLocals = 12 := hml0
  have hown : s.vm.findClass "com/example/hemalink/hemalink/lis/BlockWholePinLaw" = some m.cls := findClass_of_methodNamed Bd.named
  have hnm := (name_of_methodNamed Bd.named Bd.method).1
  have X0 : Stand p l e room_1 s m #[(.int p1), (.long q2), (.int p3)] below meth c s₁ [] 0 0 := Stand.of_body Bd
  have e0 : s₁.heap = h0 := by rw [← hh, Bd.state]; rfl
  have N0 := Fr.nil n0
  have pre0 : ∀ t, Steps p.tables e below (s₁.setTop (mkF m 0 #[.val (.int p1), .val (.long q2), .second, .val (.int p3), .unset, .unset, .unset, .unset, .unset, .unset, .unset, .unset] [])) t → Steps p.tables e below (s₁.setTop (entryFrame m #[(.int p1), (.long q2), (.int p3)] maxLocals)) t := fun t k => castTop (ef_0 m p1 q2 p3) k
  obtain ⟨nn, e_nn⟩ : ∃ z : Int32, z = p1 &&& (7 : Int32) := ⟨_, rfl⟩
  have hn0 : ¬ nn < 0 := by rw [e_nn]; exact (own_n7 p1).1
  have hn7 : nn.toNatClampNeg ≤ 7 := by rw [e_nn]; exact (own_n7 p1).2
  obtain ⟨T4, h4, k4, X4, e4, E4, A4, st4⟩ := newP X0 hx hZ (hw _ (List.mem_of_getElem? (i := 0) rfl)) e0 (g := (mkF m 8 #[.val (.int p1), .val (.long q2), .second, .val (.int p3), .val (.int nn), .unset, .unset, .unset, .unset, .unset, .unset, .unset] [(.int nn)])) rfl (hb hby at_8) rfl hn0 (cap := 7) hn7 (by decide) (by decide) (by decide)
  obtain ⟨b4, g4⟩ : ∃ z, z = h0.size := ⟨_, rfl⟩
  rw [← g4] at A4 st4
  have V4 := Arv.new A4 hn0
  obtain ⟨kk, e_kk⟩ : ∃ z : Int32, z = p3 &&& (3 : Int32) := ⟨_, rfl⟩
  obtain ⟨ll, e_ll⟩ : ∃ z : Int64, z = own_l nn kk q2 := ⟨_, rfl⟩
  obtain ⟨xx, e_xx⟩ : ∃ z : Int32, z = own_x nn kk q2 := ⟨_, rfl⟩
  obtain ⟨T5, h5, X5, e5, E5, A5, D5, -, st5⟩ := newO X4 hx hZ hown (hw _ (List.mem_of_getElem? (i := 1) rfl)) (hw _ (List.mem_of_getElem? (i := 2) rfl)) (hw _ (List.mem_of_getElem? (i := 3) rfl)) e4 (g := (mkF m 114 #[.val (.int p1), .val (.long q2), .second, .val (.int p3), .val (.int nn), .val (.ref b4), .val (.int kk), .val (.long ll), .second, .val (.int xx), .unset, .unset] [])) rfl (hb hby at_114) (by decide) (by decide)
  obtain ⟨b5, g5⟩ : ∃ z, z = h4.size := ⟨_, rfl⟩
  rw [← g5] at A5 D5 st5
  have Fm5 : Fld Z h5 b5 "com/example/hemalink/hemalink/lis/Mllp$Block" "message" "[B" .null := D5 (Or.inr (hw _ (List.mem_of_getElem? (i := 16) rfl))) (ty := (.array .byte)) (by decide)
  have Fl5 : Fld Z h5 b5 "com/example/hemalink/hemalink/lis/Mllp$Block" "length" "J" (.long (0 : Int64)) := D5 (Or.inr (hw _ (List.mem_of_getElem? (i := 18) rfl))) (ty := .long) (by decide)
  have g_b5 : n0 ≤ b5 := Nat.le_trans (Nat.le_trans Z0 E4.1) (Nat.le_of_eq g5.symm)
  have Z5 : n0 ≤ h5.size := Nat.le_trans (Nat.le_trans Z0 E4.1) E5.1
  have hne : b4 ∉ [b5] := fun hm => by have q : b4 = b5 := List.mem_singleton.mp hm; have q2 : b4 < h4.size := V4.lt; rw [q, g5] at q2; exact Nat.lt_irrefl _ q2
  obtain ⟨_, _, ⟨T6, L6, k6, n6⟩, -, X6, ⟨Lc6, hQ6, l6, y6, z6⟩, st6⟩ := X5.specialBack hx (y := (⟨"com/example/hemalink/hemalink/lis/Mllp$Block", "<init>", "([BJ)V"⟩ : MethodName)) rfl hown (mvT hZ (hw _ (List.mem_of_getElem? (i := 4) rfl))) (mvT hZ (hw _ (List.mem_of_getElem? (i := 5) rfl))) (mvT hZ (hw _ (List.mem_of_getElem? (i := 6) rfl))) (by decide) (backOf (W := 1) (rm1 l Z a0 hw [] b5 b4 ll .null (.long (0 : Int64)) h5 n0 Z5 A5 Fm5 g_b5 Fl5) hZ (hw _ (List.mem_of_getElem? (i := 6) rfl)) (hw _ (List.mem_of_getElem? (i := 3) rfl)) (by decide) (by decide)) (g := (mkF m 122 #[.val (.int p1), .val (.long q2), .second, .val (.int p3), .val (.int nn), .val (.ref b4), .val (.int kk), .val (.long ll), .second, .val (.int xx), .unset, .unset] [(.long ll), (.ref b4), (.ref b5), (.ref b5)])) rfl (by rw [hml]; rfl) (Steps.refl _) (a := b5) (argsL := [(.ref b4), (.long ll)]) (rest := [(.ref b5)]) (lenOf pd_1 rfl) rfl (by show 2 * 0 + _ ≤ _; exact Nat.le_of_eq rfl) (hb hby at_122) (fun _ _ => ⟨rfl, e5, (by decide : 2 + 0 ≤ _), (by decide : 9 + 0 ≤ _)⟩)
  dsimp only [Pt.U, Pt.locs, Pt.cells, Pt.slots] at X6 l6 y6 z6 st6 hQ6
  subst l6 y6 z6
  obtain ⟨rfl, N6q, K6, E6, Fm6, Fl6⟩ := hQ6
  have N6 := Fr.app N0 N6q
  have Z6 : n0 ≤ T6.heap.size := Nat.le_trans Z5 K6.1
  obtain ⟨cl6, Ar6, -, Sz6, Nz6, -, -⟩ := (V4.ext E5).keep K6 hne
  obtain ⟨cq7, kq7, q7a, q7b, q7c⟩ := isOf hZ rfl E6
  obtain ⟨_, _, ⟨T7, L7, k7, n7⟩, -, X7, ⟨Lc7, hQ7, l7, y7, z7⟩, st7⟩ := X6.virtualBack hx (y := (⟨"com/example/hemalink/hemalink/lis/Mllp$Block", "whole", "()Z"⟩ : MethodName)) (z := (⟨"com/example/hemalink/hemalink/lis/Mllp$Block", "whole", "()Z"⟩ : MethodName)) hown (mvT hZ (hw _ (List.mem_of_getElem? (i := 19) rfl))) (mvT hZ (hw _ (List.mem_of_getElem? (i := 20) rfl))) (notFace_of_selects (args := #[]) (mvT hZ (hw _ (List.mem_of_getElem? (i := 22) rfl)))) (mvT hZ (hw _ (List.mem_of_getElem? (i := 22) rfl))) (mvT hZ (hw _ (List.mem_of_getElem? (i := 21) rfl))) (by decide) (backOf (W := 0) (rm4 l Z a0 hw [] b5 ll b4 cl6 nn T6.heap n0 Z6 Fl6 Fm6 Ar6 Sz6 Nz6) hZ (hw _ (List.mem_of_getElem? (i := 23) rfl)) (hw _ (List.mem_of_getElem? (i := 3) rfl)) (by decide) (by decide)) q7a q7c (g := (mkF m 129 #[.val (.int p1), .val (.long q2), .second, .val (.int p3), .val (.int nn), .val (.ref b4), .val (.int kk), .val (.long ll), .second, .val (.int xx), .val (.ref b5), .unset] [(.ref b5)])) rfl (by rw [hml]; rfl) (Steps.refl _) (argsL := []) (rest := []) (lenOf pd_4 rfl) rfl (by show 2 * 0 + _ ≤ _; exact Nat.le_of_eq rfl) (hb hby at_129) (fun _ _ => ⟨rfl, rfl, (by decide : 2 + 0 ≤ _), (by decide : 9 + 0 ≤ _)⟩)
  dsimp only [Pt.U, Pt.locs, Pt.cells, Pt.slots] at X7 l7 y7 z7 st7 hQ7
  subst l7 y7 z7
  obtain ⟨rfl, N7q, e7⟩ := hQ7
  have N7 := Fr.app N6 N7q
  have hwx : own_whole ll nn = xx := by rw [e_ll, e_xx, e_nn]; exact own_plain p1 kk q2
  obtain ⟨cq8, kq8, q8a, q8b, q8c⟩ := isOf hZ e7 E6
  obtain ⟨_, _, ⟨T8, L8, k8, n8⟩, -, X8, ⟨Lc8, hQ8, l8, y8, z8⟩, st8⟩ := X7.virtualBack hx (y := (⟨"com/example/hemalink/hemalink/lis/Mllp$Block", "length", "()J"⟩ : MethodName)) (z := (⟨"com/example/hemalink/hemalink/lis/Mllp$Block", "length", "()J"⟩ : MethodName)) hown (mvT hZ (hw _ (List.mem_of_getElem? (i := 24) rfl))) (mvT hZ (hw _ (List.mem_of_getElem? (i := 25) rfl))) (notFace_of_selects (args := #[]) (mvT hZ (hw _ (List.mem_of_getElem? (i := 27) rfl)))) (mvT hZ (hw _ (List.mem_of_getElem? (i := 27) rfl))) (mvT hZ (hw _ (List.mem_of_getElem? (i := 26) rfl))) (by decide) (backOf (W := 0) (rm5 l Z a0 hw [] b5 ll T6.heap n0 Z6 Fl6) hZ (hw _ (List.mem_of_getElem? (i := 28) rfl)) (hw _ (List.mem_of_getElem? (i := 3) rfl)) (by decide) (by decide)) q8a q8c (g := (mkF m 143 #[.val (.int p1), .val (.long q2), .second, .val (.int p3), .val (.int nn), .val (.ref b4), .val (.int kk), .val (.long ll), .second, .val (.int xx), .val (.ref b5), .val (.int (own_whole ll nn))] [(.ref b5)])) rfl (by rw [hml]; rfl) (Steps.refl _) (argsL := []) (rest := []) (lenOf pd_5 rfl) rfl (by show 2 * 0 + _ ≤ _; exact Nat.le_of_eq rfl) (hb hby at_143) (fun _ _ => ⟨rfl, e7, (by decide : 2 + 0 ≤ _), (by decide : 9 + 0 ≤ _)⟩)
  dsimp only [Pt.U, Pt.locs, Pt.cells, Pt.slots] at X8 l8 y8 z8 st8 hQ8
  subst l8 y8 z8
  obtain ⟨rfl, N8q, e8⟩ := hQ8
  have N8 := Fr.app N7 N8q
  obtain ⟨cq9, kq9, q9a, q9b, q9c⟩ := isOf hZ e8 E6
  obtain ⟨_, _, ⟨T9, L9, k9, n9⟩, -, X9, ⟨Lc9, hQ9, l9, y9, z9⟩, st9⟩ := X8.virtualBack hx (y := (⟨"com/example/hemalink/hemalink/lis/Mllp$Block", "message", "()[B"⟩ : MethodName)) (z := (⟨"com/example/hemalink/hemalink/lis/Mllp$Block", "message", "()[B"⟩ : MethodName)) hown (mvT hZ (hw _ (List.mem_of_getElem? (i := 29) rfl))) (mvT hZ (hw _ (List.mem_of_getElem? (i := 30) rfl))) (notFace_of_selects (args := #[]) (mvT hZ (hw _ (List.mem_of_getElem? (i := 32) rfl)))) (mvT hZ (hw _ (List.mem_of_getElem? (i := 32) rfl))) (mvT hZ (hw _ (List.mem_of_getElem? (i := 31) rfl))) (by decide) (backOf (W := 0) (rm6 l Z a0 hw [] b5 b4 T6.heap n0 Z6 Fm6) hZ (hw _ (List.mem_of_getElem? (i := 33) rfl)) (hw _ (List.mem_of_getElem? (i := 3) rfl)) (by decide) (by decide)) q9a q9c (g := (mkF m 154 #[.val (.int p1), .val (.long q2), .second, .val (.int p3), .val (.int nn), .val (.ref b4), .val (.int kk), .val (.long ll), .second, .val (.int xx), .val (.ref b5), .val (.int (own_whole ll nn))] [(.ref b5)])) rfl (by rw [hml]; rfl) (Steps.refl _) (argsL := []) (rest := []) (lenOf pd_6 rfl) rfl (by show 2 * 0 + _ ≤ _; exact Nat.le_of_eq rfl) (hb hby at_154) (fun _ _ => ⟨rfl, e8, (by decide : 2 + 0 ≤ _), (by decide : 9 + 0 ≤ _)⟩)
  dsimp only [Pt.U, Pt.locs, Pt.cells, Pt.slots] at X9 l9 y9 z9 st9 hQ9
  subst l9 y9 z9
  obtain ⟨rfl, N9q, e9⟩ := hQ9
  have N9 := Fr.app N8 N9q
  obtain ⟨fs, hr, hrun, hended, hW, hsame⟩ := X9.leave (v := some (.int (1 : Int32))) (fun h => by rw [Bd.returns] at h; cases h)
  refine ⟨_, _, pre0 _ ?_, hrun, hended, _, _, rfl, ?_, ⟨_, rfl⟩, hW, hsame.mono (by decide) (by decide)⟩
  ·
    show Steps p.tables e below (s₁.setTop (mkF m 0 #[.val (.int p1), .val (.long q2), .second, .val (.int p3), .unset, .unset, .unset, .unset, .unset, .unset, .unset, .unset] [])) _
    refine XS.iloadN X0.here hx rfl (hb hby at_0) rfl ?_
    show Steps p.tables e below (s₁.setTop (mkF m 1 #[.val (.int p1), .val (.long q2), .second, .val (.int p3), .unset, .unset, .unset, .unset, .unset, .unset, .unset, .unset] [(.int p1)])) _
    refine XS.bipush X0.here hx rfl (hb hby at_1) ?_
    show Steps p.tables e below (s₁.setTop (mkF m 3 #[.val (.int p1), .val (.long q2), .second, .val (.int p3), .unset, .unset, .unset, .unset, .unset, .unset, .unset, .unset] [(.int (7 : Int32)), (.int p1)])) _
    refine XS.iand X0.here hx rfl (hb hby at_3) rfl ?_
    show Steps p.tables e below (s₁.setTop (mkF m 4 #[.val (.int p1), .val (.long q2), .second, .val (.int p3), .unset, .unset, .unset, .unset, .unset, .unset, .unset, .unset] [(.int (p1 &&& (7 : Int32)))])) _
    refine XS.istore X0.here hx rfl (hb hby at_4) rfl (l' := #[.val (.int p1), .val (.long q2), .second, .val (.int p3), .val (.int nn), .unset, .unset, .unset, .unset, .unset, .unset, .unset]) (by rw [e_nn]; rfl) ?_
    show Steps p.tables e below (s₁.setTop (mkF m 6 #[.val (.int p1), .val (.long q2), .second, .val (.int p3), .val (.int nn), .unset, .unset, .unset, .unset, .unset, .unset, .unset] [])) _
    refine XS.iload X0.here hx rfl (hb hby at_6) rfl ?_
    show Steps p.tables e below (s₁.setTop (mkF m 8 #[.val (.int p1), .val (.long q2), .second, .val (.int p3), .val (.int nn), .unset, .unset, .unset, .unset, .unset, .unset, .unset] [(.int nn)])) _
    refine st4 _ ?_
    show Steps p.tables e below (T4.setTop (mkF m 10 #[.val (.int p1), .val (.long q2), .second, .val (.int p3), .val (.int nn), .unset, .unset, .unset, .unset, .unset, .unset, .unset] [(.ref b4)])) _
    refine XS.astore X4.here hx rfl (hb hby at_10) rfl rfl (l' := #[.val (.int p1), .val (.long q2), .second, .val (.int p3), .val (.int nn), .val (.ref b4), .unset, .unset, .unset, .unset, .unset, .unset]) rfl ?_
    show Steps p.tables e below (T4.setTop (mkF m 12 #[.val (.int p1), .val (.long q2), .second, .val (.int p3), .val (.int nn), .val (.ref b4), .unset, .unset, .unset, .unset, .unset, .unset] [])) _
    refine XS.iloadN X4.here hx rfl (hb hby at_12) rfl ?_
    show Steps p.tables e below (T4.setTop (mkF m 13 #[.val (.int p1), .val (.long q2), .second, .val (.int p3), .val (.int nn), .val (.ref b4), .unset, .unset, .unset, .unset, .unset, .unset] [(.int p3)])) _
    refine XS.iconst X4.here hx rfl (hb hby at_13) ?_
    show Steps p.tables e below (T4.setTop (mkF m 14 #[.val (.int p1), .val (.long q2), .second, .val (.int p3), .val (.int nn), .val (.ref b4), .unset, .unset, .unset, .unset, .unset, .unset] [(.int (3 : Int32)), (.int p3)])) _
    refine XS.iand X4.here hx rfl (hb hby at_14) rfl ?_
    show Steps p.tables e below (T4.setTop (mkF m 15 #[.val (.int p1), .val (.long q2), .second, .val (.int p3), .val (.int nn), .val (.ref b4), .unset, .unset, .unset, .unset, .unset, .unset] [(.int (p3 &&& (3 : Int32)))])) _
    refine XS.istore X4.here hx rfl (hb hby at_15) rfl (l' := #[.val (.int p1), .val (.long q2), .second, .val (.int p3), .val (.int nn), .val (.ref b4), .val (.int kk), .unset, .unset, .unset, .unset, .unset]) (by rw [e_kk]; rfl) ?_
    have sg17 : ∀ t, Steps p.tables e below (T4.setTop (mkF m 114 #[.val (.int p1), .val (.long q2), .second, .val (.int p3), .val (.int nn), .val (.ref b4), .val (.int kk), .val (.long ll), .second, .val (.int xx), .unset, .unset] [])) t → Steps p.tables e below (T4.setTop (mkF m 17 #[.val (.int p1), .val (.long q2), .second, .val (.int p3), .val (.int nn), .val (.ref b4), .val (.int kk), .unset, .unset, .unset, .unset, .unset] [])) t := by
      intro t kt
      show Steps p.tables e below (T4.setTop (mkF m 17 #[.val (.int p1), .val (.long q2), .second, .val (.int p3), .val (.int nn), .val (.ref b4), .val (.int kk), .unset, .unset, .unset, .unset, .unset] [])) _
      refine XS.iload X4.here hx rfl (hb hby at_17) rfl ?_
      by_cases c17_0 : kk = (0 : Int32)
      · show Steps p.tables e below (T4.setTop (mkF m 19 #[.val (.int p1), .val (.long q2), .second, .val (.int p3), .val (.int nn), .val (.ref b4), .val (.int kk), .unset, .unset, .unset, .unset, .unset] [(.int kk)])) _
        refine XS.ifNo X4.here hx rfl (hb hby at_19) rfl ((if0 _ _).trans (teq c17_0).2) ?_
        show Steps p.tables e below (T4.setTop (mkF m 22 #[.val (.int p1), .val (.long q2), .second, .val (.int p3), .val (.int nn), .val (.ref b4), .val (.int kk), .unset, .unset, .unset, .unset, .unset] [])) _
        refine XS.iload X4.here hx rfl (hb hby at_22) rfl ?_
        show Steps p.tables e below (T4.setTop (mkF m 24 #[.val (.int p1), .val (.long q2), .second, .val (.int p3), .val (.int nn), .val (.ref b4), .val (.int kk), .unset, .unset, .unset, .unset, .unset] [(.int nn)])) _
        refine XS.i2l X4.here hx rfl (hb hby at_24) rfl ?_
        show Steps p.tables e below (T4.setTop (mkF m 25 #[.val (.int p1), .val (.long q2), .second, .val (.int p3), .val (.int nn), .val (.ref b4), .val (.int kk), .unset, .unset, .unset, .unset, .unset] [(.long (nn.toInt64))])) _
        refine XS.lstore X4.here hx rfl (hb hby at_25) rfl (l' := #[.val (.int p1), .val (.long q2), .second, .val (.int p3), .val (.int nn), .val (.ref b4), .val (.int kk), .val (.long (nn.toInt64)), .second, .unset, .unset, .unset]) rfl ?_
        show Steps p.tables e below (T4.setTop (mkF m 27 #[.val (.int p1), .val (.long q2), .second, .val (.int p3), .val (.int nn), .val (.ref b4), .val (.int kk), .val (.long (nn.toInt64)), .second, .unset, .unset, .unset] [])) _
        refine XS.iconst X4.here hx rfl (hb hby at_27) ?_
        show Steps p.tables e below (T4.setTop (mkF m 28 #[.val (.int p1), .val (.long q2), .second, .val (.int p3), .val (.int nn), .val (.ref b4), .val (.int kk), .val (.long (nn.toInt64)), .second, .unset, .unset, .unset] [(.int (1 : Int32))])) _
        refine XS.istore X4.here hx rfl (hb hby at_28) rfl (l' := #[.val (.int p1), .val (.long q2), .second, .val (.int p3), .val (.int nn), .val (.ref b4), .val (.int kk), .val (.long (nn.toInt64)), .second, .val (.int (1 : Int32)), .unset, .unset]) rfl ?_
        show Steps p.tables e below (T4.setTop (mkF m 30 #[.val (.int p1), .val (.long q2), .second, .val (.int p3), .val (.int nn), .val (.ref b4), .val (.int kk), .val (.long (nn.toInt64)), .second, .val (.int (1 : Int32)), .unset, .unset] [])) _
        refine XS.goto X4.here hx rfl (pc0 := 30) (pc' := 114) rfl (hb hby at_30) (by decide) (by decide) ?_
        rw [show ll = (nn.toInt64) from e_ll.trans (by rw [own_l, if_pos c17_0]), show xx = (1 : Int32) from e_xx.trans (by rw [own_x, if_pos c17_0])] at kt
        show Steps p.tables e below (T4.setTop (mkF m 114 #[.val (.int p1), .val (.long q2), .second, .val (.int p3), .val (.int nn), .val (.ref b4), .val (.int kk), .val (.long (nn.toInt64)), .second, .val (.int (1 : Int32)), .unset, .unset] [])) _
        exact kt
      · show Steps p.tables e below (T4.setTop (mkF m 19 #[.val (.int p1), .val (.long q2), .second, .val (.int p3), .val (.int nn), .val (.ref b4), .val (.int kk), .unset, .unset, .unset, .unset, .unset] [(.int kk)])) _
        refine XS.ifYes X4.here hx rfl (pc0 := 19) (pc' := 33) rfl (hb hby at_19) rfl ((if0 _ _).trans (feq c17_0).2) (by decide) (by decide) ?_
        show Steps p.tables e below (T4.setTop (mkF m 33 #[.val (.int p1), .val (.long q2), .second, .val (.int p3), .val (.int nn), .val (.ref b4), .val (.int kk), .unset, .unset, .unset, .unset, .unset] [])) _
        refine XS.iload X4.here hx rfl (hb hby at_33) rfl ?_
        show Steps p.tables e below (T4.setTop (mkF m 35 #[.val (.int p1), .val (.long q2), .second, .val (.int p3), .val (.int nn), .val (.ref b4), .val (.int kk), .unset, .unset, .unset, .unset, .unset] [(.int kk)])) _
        refine XS.iconst X4.here hx rfl (hb hby at_35) ?_
        by_cases c17_1 : kk = (1 : Int32)
        · show Steps p.tables e below (T4.setTop (mkF m 36 #[.val (.int p1), .val (.long q2), .second, .val (.int p3), .val (.int nn), .val (.ref b4), .val (.int kk), .unset, .unset, .unset, .unset, .unset] [(.int (1 : Int32)), (.int kk)])) _
          refine XS.icmpNo X4.here hx rfl (hb hby at_36) rfl (teq c17_1).2 ?_
          show Steps p.tables e below (T4.setTop (mkF m 39 #[.val (.int p1), .val (.long q2), .second, .val (.int p3), .val (.int nn), .val (.ref b4), .val (.int kk), .unset, .unset, .unset, .unset, .unset] [])) _
          refine XS.iload X4.here hx rfl (hb hby at_39) rfl ?_
          show Steps p.tables e below (T4.setTop (mkF m 41 #[.val (.int p1), .val (.long q2), .second, .val (.int p3), .val (.int nn), .val (.ref b4), .val (.int kk), .unset, .unset, .unset, .unset, .unset] [(.int nn)])) _
          refine XS.i2l X4.here hx rfl (hb hby at_41) rfl ?_
          show Steps p.tables e below (T4.setTop (mkF m 42 #[.val (.int p1), .val (.long q2), .second, .val (.int p3), .val (.int nn), .val (.ref b4), .val (.int kk), .unset, .unset, .unset, .unset, .unset] [(.long (nn.toInt64))])) _
          refine XS.lconst X4.here hx rfl (hb hby at_42) ?_
          show Steps p.tables e below (T4.setTop (mkF m 43 #[.val (.int p1), .val (.long q2), .second, .val (.int p3), .val (.int nn), .val (.ref b4), .val (.int kk), .unset, .unset, .unset, .unset, .unset] [(.long (1 : Int64)), (.long (nn.toInt64))])) _
          refine XS.ladd X4.here hx rfl (hb hby at_43) rfl ?_
          show Steps p.tables e below (T4.setTop (mkF m 44 #[.val (.int p1), .val (.long q2), .second, .val (.int p3), .val (.int nn), .val (.ref b4), .val (.int kk), .unset, .unset, .unset, .unset, .unset] [(.long ((nn.toInt64) + (1 : Int64)))])) _
          refine XS.lstore X4.here hx rfl (hb hby at_44) rfl (l' := #[.val (.int p1), .val (.long q2), .second, .val (.int p3), .val (.int nn), .val (.ref b4), .val (.int kk), .val (.long ((nn.toInt64) + (1 : Int64))), .second, .unset, .unset, .unset]) rfl ?_
          show Steps p.tables e below (T4.setTop (mkF m 46 #[.val (.int p1), .val (.long q2), .second, .val (.int p3), .val (.int nn), .val (.ref b4), .val (.int kk), .val (.long ((nn.toInt64) + (1 : Int64))), .second, .unset, .unset, .unset] [])) _
          refine XS.iconst X4.here hx rfl (hb hby at_46) ?_
          show Steps p.tables e below (T4.setTop (mkF m 47 #[.val (.int p1), .val (.long q2), .second, .val (.int p3), .val (.int nn), .val (.ref b4), .val (.int kk), .val (.long ((nn.toInt64) + (1 : Int64))), .second, .unset, .unset, .unset] [(.int (0 : Int32))])) _
          refine XS.istore X4.here hx rfl (hb hby at_47) rfl (l' := #[.val (.int p1), .val (.long q2), .second, .val (.int p3), .val (.int nn), .val (.ref b4), .val (.int kk), .val (.long ((nn.toInt64) + (1 : Int64))), .second, .val (.int (0 : Int32)), .unset, .unset]) rfl ?_
          show Steps p.tables e below (T4.setTop (mkF m 49 #[.val (.int p1), .val (.long q2), .second, .val (.int p3), .val (.int nn), .val (.ref b4), .val (.int kk), .val (.long ((nn.toInt64) + (1 : Int64))), .second, .val (.int (0 : Int32)), .unset, .unset] [])) _
          refine XS.goto X4.here hx rfl (pc0 := 49) (pc' := 114) rfl (hb hby at_49) (by decide) (by decide) ?_
          rw [show ll = ((nn.toInt64) + (1 : Int64)) from e_ll.trans (by rw [own_l, if_neg c17_0, if_pos c17_1]), show xx = (0 : Int32) from e_xx.trans (by rw [own_x, if_neg c17_0, if_pos c17_1])] at kt
          show Steps p.tables e below (T4.setTop (mkF m 114 #[.val (.int p1), .val (.long q2), .second, .val (.int p3), .val (.int nn), .val (.ref b4), .val (.int kk), .val (.long ((nn.toInt64) + (1 : Int64))), .second, .val (.int (0 : Int32)), .unset, .unset] [])) _
          exact kt
        · show Steps p.tables e below (T4.setTop (mkF m 36 #[.val (.int p1), .val (.long q2), .second, .val (.int p3), .val (.int nn), .val (.ref b4), .val (.int kk), .unset, .unset, .unset, .unset, .unset] [(.int (1 : Int32)), (.int kk)])) _
          refine XS.icmpYes X4.here hx rfl (pc0 := 36) (pc' := 52) rfl (hb hby at_36) rfl (feq c17_1).2 (by decide) (by decide) ?_
          show Steps p.tables e below (T4.setTop (mkF m 52 #[.val (.int p1), .val (.long q2), .second, .val (.int p3), .val (.int nn), .val (.ref b4), .val (.int kk), .unset, .unset, .unset, .unset, .unset] [])) _
          refine XS.iload X4.here hx rfl (hb hby at_52) rfl ?_
          show Steps p.tables e below (T4.setTop (mkF m 54 #[.val (.int p1), .val (.long q2), .second, .val (.int p3), .val (.int nn), .val (.ref b4), .val (.int kk), .unset, .unset, .unset, .unset, .unset] [(.int kk)])) _
          refine XS.iconst X4.here hx rfl (hb hby at_54) ?_
          by_cases c17_2 : kk = (2 : Int32)
          · show Steps p.tables e below (T4.setTop (mkF m 55 #[.val (.int p1), .val (.long q2), .second, .val (.int p3), .val (.int nn), .val (.ref b4), .val (.int kk), .unset, .unset, .unset, .unset, .unset] [(.int (2 : Int32)), (.int kk)])) _
            refine XS.icmpNo X4.here hx rfl (hb hby at_55) rfl (teq c17_2).2 ?_
            show Steps p.tables e below (T4.setTop (mkF m 58 #[.val (.int p1), .val (.long q2), .second, .val (.int p3), .val (.int nn), .val (.ref b4), .val (.int kk), .unset, .unset, .unset, .unset, .unset] [])) _
            refine XS.iload X4.here hx rfl (hb hby at_58) rfl ?_
            show Steps p.tables e below (T4.setTop (mkF m 60 #[.val (.int p1), .val (.long q2), .second, .val (.int p3), .val (.int nn), .val (.ref b4), .val (.int kk), .unset, .unset, .unset, .unset, .unset] [(.int nn)])) _
            refine XS.i2l X4.here hx rfl (hb hby at_60) rfl ?_
            show Steps p.tables e below (T4.setTop (mkF m 61 #[.val (.int p1), .val (.long q2), .second, .val (.int p3), .val (.int nn), .val (.ref b4), .val (.int kk), .unset, .unset, .unset, .unset, .unset] [(.long (nn.toInt64))])) _
            refine XS.lconst X4.here hx rfl (hb hby at_61) ?_
            show Steps p.tables e below (T4.setTop (mkF m 62 #[.val (.int p1), .val (.long q2), .second, .val (.int p3), .val (.int nn), .val (.ref b4), .val (.int kk), .unset, .unset, .unset, .unset, .unset] [(.long (1 : Int64)), (.long (nn.toInt64))])) _
            refine XS.lsub X4.here hx rfl (hb hby at_62) rfl ?_
            show Steps p.tables e below (T4.setTop (mkF m 63 #[.val (.int p1), .val (.long q2), .second, .val (.int p3), .val (.int nn), .val (.ref b4), .val (.int kk), .unset, .unset, .unset, .unset, .unset] [(.long ((nn.toInt64) - (1 : Int64)))])) _
            refine XS.lstore X4.here hx rfl (hb hby at_63) rfl (l' := #[.val (.int p1), .val (.long q2), .second, .val (.int p3), .val (.int nn), .val (.ref b4), .val (.int kk), .val (.long ((nn.toInt64) - (1 : Int64))), .second, .unset, .unset, .unset]) rfl ?_
            show Steps p.tables e below (T4.setTop (mkF m 65 #[.val (.int p1), .val (.long q2), .second, .val (.int p3), .val (.int nn), .val (.ref b4), .val (.int kk), .val (.long ((nn.toInt64) - (1 : Int64))), .second, .unset, .unset, .unset] [])) _
            refine XS.iconst X4.here hx rfl (hb hby at_65) ?_
            show Steps p.tables e below (T4.setTop (mkF m 66 #[.val (.int p1), .val (.long q2), .second, .val (.int p3), .val (.int nn), .val (.ref b4), .val (.int kk), .val (.long ((nn.toInt64) - (1 : Int64))), .second, .unset, .unset, .unset] [(.int (0 : Int32))])) _
            refine XS.istore X4.here hx rfl (hb hby at_66) rfl (l' := #[.val (.int p1), .val (.long q2), .second, .val (.int p3), .val (.int nn), .val (.ref b4), .val (.int kk), .val (.long ((nn.toInt64) - (1 : Int64))), .second, .val (.int (0 : Int32)), .unset, .unset]) rfl ?_
            show Steps p.tables e below (T4.setTop (mkF m 68 #[.val (.int p1), .val (.long q2), .second, .val (.int p3), .val (.int nn), .val (.ref b4), .val (.int kk), .val (.long ((nn.toInt64) - (1 : Int64))), .second, .val (.int (0 : Int32)), .unset, .unset] [])) _
            refine XS.goto X4.here hx rfl (pc0 := 68) (pc' := 114) rfl (hb hby at_68) (by decide) (by decide) ?_
            rw [show ll = ((nn.toInt64) - (1 : Int64)) from e_ll.trans (by rw [own_l, if_neg c17_0, if_neg c17_1, if_pos c17_2]), show xx = (0 : Int32) from e_xx.trans (by rw [own_x, if_neg c17_0, if_neg c17_1, if_pos c17_2])] at kt
            show Steps p.tables e below (T4.setTop (mkF m 114 #[.val (.int p1), .val (.long q2), .second, .val (.int p3), .val (.int nn), .val (.ref b4), .val (.int kk), .val (.long ((nn.toInt64) - (1 : Int64))), .second, .val (.int (0 : Int32)), .unset, .unset] [])) _
            exact kt
          · show Steps p.tables e below (T4.setTop (mkF m 55 #[.val (.int p1), .val (.long q2), .second, .val (.int p3), .val (.int nn), .val (.ref b4), .val (.int kk), .unset, .unset, .unset, .unset, .unset] [(.int (2 : Int32)), (.int kk)])) _
            refine XS.icmpYes X4.here hx rfl (pc0 := 55) (pc' := 71) rfl (hb hby at_55) rfl (feq c17_2).2 (by decide) (by decide) ?_
            show Steps p.tables e below (T4.setTop (mkF m 71 #[.val (.int p1), .val (.long q2), .second, .val (.int p3), .val (.int nn), .val (.ref b4), .val (.int kk), .unset, .unset, .unset, .unset, .unset] [])) _
            refine XS.lloadN X4.here hx rfl (hb hby at_71) rfl ?_
            show Steps p.tables e below (T4.setTop (mkF m 72 #[.val (.int p1), .val (.long q2), .second, .val (.int p3), .val (.int nn), .val (.ref b4), .val (.int kk), .unset, .unset, .unset, .unset, .unset] [(.long q2)])) _
            refine XS.lstore X4.here hx rfl (hb hby at_72) rfl (l' := #[.val (.int p1), .val (.long q2), .second, .val (.int p3), .val (.int nn), .val (.ref b4), .val (.int kk), .val (.long q2), .second, .unset, .unset, .unset]) rfl ?_
            show Steps p.tables e below (T4.setTop (mkF m 74 #[.val (.int p1), .val (.long q2), .second, .val (.int p3), .val (.int nn), .val (.ref b4), .val (.int kk), .val (.long q2), .second, .unset, .unset, .unset] [])) _
            refine XS.lloadN X4.here hx rfl (hb hby at_74) rfl ?_
            show Steps p.tables e below (T4.setTop (mkF m 75 #[.val (.int p1), .val (.long q2), .second, .val (.int p3), .val (.int nn), .val (.ref b4), .val (.int kk), .val (.long q2), .second, .unset, .unset, .unset] [(.long q2)])) _
            refine XS.lconst X4.here hx rfl (hb hby at_75) ?_
            show Steps p.tables e below (T4.setTop (mkF m 76 #[.val (.int p1), .val (.long q2), .second, .val (.int p3), .val (.int nn), .val (.ref b4), .val (.int kk), .val (.long q2), .second, .unset, .unset, .unset] [(.long (0 : Int64)), (.long q2)])) _
            refine XS.lcmp X4.here hx rfl (hb hby at_76) rfl ?_
            by_cases c17_3 : q2 < (0 : Int64)
            · show Steps p.tables e below (T4.setTop (mkF m 77 #[.val (.int p1), .val (.long q2), .second, .val (.int p3), .val (.int nn), .val (.ref b4), .val (.int kk), .val (.long q2), .second, .unset, .unset, .unset] [(.int (lcmpW q2 (0 : Int64)))])) _
              refine XS.ifNo X4.here hx rfl (hb hby at_77) rfl ((if0 _ _).trans (tlt ((lw_lt _ _).mpr c17_3)).2.1) ?_
              show Steps p.tables e below (T4.setTop (mkF m 80 #[.val (.int p1), .val (.long q2), .second, .val (.int p3), .val (.int nn), .val (.ref b4), .val (.int kk), .val (.long q2), .second, .unset, .unset, .unset] [])) _
              refine XS.iconst X4.here hx rfl (hb hby at_80) ?_
              show Steps p.tables e below (T4.setTop (mkF m 81 #[.val (.int p1), .val (.long q2), .second, .val (.int p3), .val (.int nn), .val (.ref b4), .val (.int kk), .val (.long q2), .second, .unset, .unset, .unset] [(.int (0 : Int32))])) _
              refine XS.istore X4.here hx rfl (hb hby at_81) rfl (l' := #[.val (.int p1), .val (.long q2), .second, .val (.int p3), .val (.int nn), .val (.ref b4), .val (.int kk), .val (.long q2), .second, .val (.int (0 : Int32)), .unset, .unset]) rfl ?_
              show Steps p.tables e below (T4.setTop (mkF m 83 #[.val (.int p1), .val (.long q2), .second, .val (.int p3), .val (.int nn), .val (.ref b4), .val (.int kk), .val (.long q2), .second, .val (.int (0 : Int32)), .unset, .unset] [])) _
              refine XS.goto X4.here hx rfl (pc0 := 83) (pc' := 114) rfl (hb hby at_83) (by decide) (by decide) ?_
              rw [show ll = q2 from e_ll.trans (by rw [own_l, if_neg c17_0, if_neg c17_1, if_neg c17_2, if_pos c17_3]), show xx = (0 : Int32) from e_xx.trans (by rw [own_x, if_neg c17_0, if_neg c17_1, if_neg c17_2, if_pos c17_3])] at kt
              show Steps p.tables e below (T4.setTop (mkF m 114 #[.val (.int p1), .val (.long q2), .second, .val (.int p3), .val (.int nn), .val (.ref b4), .val (.int kk), .val (.long q2), .second, .val (.int (0 : Int32)), .unset, .unset] [])) _
              exact kt
            · show Steps p.tables e below (T4.setTop (mkF m 77 #[.val (.int p1), .val (.long q2), .second, .val (.int p3), .val (.int nn), .val (.ref b4), .val (.int kk), .val (.long q2), .second, .unset, .unset, .unset] [(.int (lcmpW q2 (0 : Int64)))])) _
              refine XS.ifYes X4.here hx rfl (pc0 := 77) (pc' := 86) rfl (hb hby at_77) rfl ((if0 _ _).trans (flt (fun z => c17_3 ((lw_lt _ _).mp z))).2.1) (by decide) (by decide) ?_
              show Steps p.tables e below (T4.setTop (mkF m 86 #[.val (.int p1), .val (.long q2), .second, .val (.int p3), .val (.int nn), .val (.ref b4), .val (.int kk), .val (.long q2), .second, .unset, .unset, .unset] [])) _
              refine XS.lloadN X4.here hx rfl (hb hby at_86) rfl ?_
              show Steps p.tables e below (T4.setTop (mkF m 87 #[.val (.int p1), .val (.long q2), .second, .val (.int p3), .val (.int nn), .val (.ref b4), .val (.int kk), .val (.long q2), .second, .unset, .unset, .unset] [(.long q2)])) _
              refine X4.ldc2Long hx hown (mvT hZ (hw _ (List.mem_of_getElem? (i := 34) rfl))) (g := (mkF m 87 #[.val (.int p1), .val (.long q2), .second, .val (.int p3), .val (.int nn), .val (.ref b4), .val (.int kk), .val (.long q2), .second, .unset, .unset, .unset] [(.long q2)])) rfl (hb hby at_87) _ ?_
              show Steps p.tables e below (T4.setTop (mkF m 90 #[.val (.int p1), .val (.long q2), .second, .val (.int p3), .val (.int nn), .val (.ref b4), .val (.int kk), .val (.long q2), .second, .unset, .unset, .unset] [(.long (7 : Int64)), (.long q2)])) _
              refine XS.lcmp X4.here hx rfl (hb hby at_90) rfl ?_
              by_cases c17_4 : (7 : Int64) < q2
              · show Steps p.tables e below (T4.setTop (mkF m 91 #[.val (.int p1), .val (.long q2), .second, .val (.int p3), .val (.int nn), .val (.ref b4), .val (.int kk), .val (.long q2), .second, .unset, .unset, .unset] [(.int (lcmpW q2 (7 : Int64)))])) _
                refine XS.ifNo X4.here hx rfl (hb hby at_91) rfl ((if0 _ _).trans (tlt ((lw_gt _ _).mpr c17_4)).2.2.2) ?_
                show Steps p.tables e below (T4.setTop (mkF m 94 #[.val (.int p1), .val (.long q2), .second, .val (.int p3), .val (.int nn), .val (.ref b4), .val (.int kk), .val (.long q2), .second, .unset, .unset, .unset] [])) _
                refine XS.iconst X4.here hx rfl (hb hby at_94) ?_
                show Steps p.tables e below (T4.setTop (mkF m 95 #[.val (.int p1), .val (.long q2), .second, .val (.int p3), .val (.int nn), .val (.ref b4), .val (.int kk), .val (.long q2), .second, .unset, .unset, .unset] [(.int (0 : Int32))])) _
                refine XS.istore X4.here hx rfl (hb hby at_95) rfl (l' := #[.val (.int p1), .val (.long q2), .second, .val (.int p3), .val (.int nn), .val (.ref b4), .val (.int kk), .val (.long q2), .second, .val (.int (0 : Int32)), .unset, .unset]) rfl ?_
                show Steps p.tables e below (T4.setTop (mkF m 97 #[.val (.int p1), .val (.long q2), .second, .val (.int p3), .val (.int nn), .val (.ref b4), .val (.int kk), .val (.long q2), .second, .val (.int (0 : Int32)), .unset, .unset] [])) _
                refine XS.goto X4.here hx rfl (pc0 := 97) (pc' := 114) rfl (hb hby at_97) (by decide) (by decide) ?_
                rw [show ll = q2 from e_ll.trans (by rw [own_l, if_neg c17_0, if_neg c17_1, if_neg c17_2, if_neg c17_3, if_pos c17_4]), show xx = (0 : Int32) from e_xx.trans (by rw [own_x, if_neg c17_0, if_neg c17_1, if_neg c17_2, if_neg c17_3, if_pos c17_4])] at kt
                show Steps p.tables e below (T4.setTop (mkF m 114 #[.val (.int p1), .val (.long q2), .second, .val (.int p3), .val (.int nn), .val (.ref b4), .val (.int kk), .val (.long q2), .second, .val (.int (0 : Int32)), .unset, .unset] [])) _
                exact kt
              · show Steps p.tables e below (T4.setTop (mkF m 91 #[.val (.int p1), .val (.long q2), .second, .val (.int p3), .val (.int nn), .val (.ref b4), .val (.int kk), .val (.long q2), .second, .unset, .unset, .unset] [(.int (lcmpW q2 (7 : Int64)))])) _
                refine XS.ifYes X4.here hx rfl (pc0 := 91) (pc' := 100) rfl (hb hby at_91) rfl ((if0 _ _).trans (flt (fun z => c17_4 ((lw_gt _ _).mp z))).2.2.2) (by decide) (by decide) ?_
                show Steps p.tables e below (T4.setTop (mkF m 100 #[.val (.int p1), .val (.long q2), .second, .val (.int p3), .val (.int nn), .val (.ref b4), .val (.int kk), .val (.long q2), .second, .unset, .unset, .unset] [])) _
                refine XS.lloadN X4.here hx rfl (hb hby at_100) rfl ?_
                show Steps p.tables e below (T4.setTop (mkF m 101 #[.val (.int p1), .val (.long q2), .second, .val (.int p3), .val (.int nn), .val (.ref b4), .val (.int kk), .val (.long q2), .second, .unset, .unset, .unset] [(.long q2)])) _
                refine XS.l2i X4.here hx rfl (hb hby at_101) rfl ?_
                show Steps p.tables e below (T4.setTop (mkF m 102 #[.val (.int p1), .val (.long q2), .second, .val (.int p3), .val (.int nn), .val (.ref b4), .val (.int kk), .val (.long q2), .second, .unset, .unset, .unset] [(.int (q2.toInt32))])) _
                refine XS.iload X4.here hx rfl (hb hby at_102) rfl ?_
                by_cases c17_5 : (q2.toInt32) = nn
                · show Steps p.tables e below (T4.setTop (mkF m 104 #[.val (.int p1), .val (.long q2), .second, .val (.int p3), .val (.int nn), .val (.ref b4), .val (.int kk), .val (.long q2), .second, .unset, .unset, .unset] [(.int nn), (.int (q2.toInt32))])) _
                  refine XS.icmpNo X4.here hx rfl (hb hby at_104) rfl (teq c17_5).2 ?_
                  show Steps p.tables e below (T4.setTop (mkF m 107 #[.val (.int p1), .val (.long q2), .second, .val (.int p3), .val (.int nn), .val (.ref b4), .val (.int kk), .val (.long q2), .second, .unset, .unset, .unset] [])) _
                  refine XS.iconst X4.here hx rfl (hb hby at_107) ?_
                  show Steps p.tables e below (T4.setTop (mkF m 108 #[.val (.int p1), .val (.long q2), .second, .val (.int p3), .val (.int nn), .val (.ref b4), .val (.int kk), .val (.long q2), .second, .unset, .unset, .unset] [(.int (1 : Int32))])) _
                  refine XS.goto X4.here hx rfl (pc0 := 108) (pc' := 112) rfl (hb hby at_108) (by decide) (by decide) ?_
                  show Steps p.tables e below (T4.setTop (mkF m 112 #[.val (.int p1), .val (.long q2), .second, .val (.int p3), .val (.int nn), .val (.ref b4), .val (.int kk), .val (.long q2), .second, .unset, .unset, .unset] [(.int (1 : Int32))])) _
                  refine XS.istore X4.here hx rfl (hb hby at_112) rfl (l' := #[.val (.int p1), .val (.long q2), .second, .val (.int p3), .val (.int nn), .val (.ref b4), .val (.int kk), .val (.long q2), .second, .val (.int (1 : Int32)), .unset, .unset]) rfl ?_
                  rw [show ll = q2 from e_ll.trans (by rw [own_l, if_neg c17_0, if_neg c17_1, if_neg c17_2, if_neg c17_3, if_neg c17_4, if_pos c17_5]), show xx = (1 : Int32) from e_xx.trans (by rw [own_x, if_neg c17_0, if_neg c17_1, if_neg c17_2, if_neg c17_3, if_neg c17_4, if_pos c17_5])] at kt
                  show Steps p.tables e below (T4.setTop (mkF m 114 #[.val (.int p1), .val (.long q2), .second, .val (.int p3), .val (.int nn), .val (.ref b4), .val (.int kk), .val (.long q2), .second, .val (.int (1 : Int32)), .unset, .unset] [])) _
                  exact kt
                · show Steps p.tables e below (T4.setTop (mkF m 104 #[.val (.int p1), .val (.long q2), .second, .val (.int p3), .val (.int nn), .val (.ref b4), .val (.int kk), .val (.long q2), .second, .unset, .unset, .unset] [(.int nn), (.int (q2.toInt32))])) _
                  refine XS.icmpYes X4.here hx rfl (pc0 := 104) (pc' := 111) rfl (hb hby at_104) rfl (feq c17_5).2 (by decide) (by decide) ?_
                  show Steps p.tables e below (T4.setTop (mkF m 111 #[.val (.int p1), .val (.long q2), .second, .val (.int p3), .val (.int nn), .val (.ref b4), .val (.int kk), .val (.long q2), .second, .unset, .unset, .unset] [])) _
                  refine XS.iconst X4.here hx rfl (hb hby at_111) ?_
                  show Steps p.tables e below (T4.setTop (mkF m 112 #[.val (.int p1), .val (.long q2), .second, .val (.int p3), .val (.int nn), .val (.ref b4), .val (.int kk), .val (.long q2), .second, .unset, .unset, .unset] [(.int (0 : Int32))])) _
                  refine XS.istore X4.here hx rfl (hb hby at_112) rfl (l' := #[.val (.int p1), .val (.long q2), .second, .val (.int p3), .val (.int nn), .val (.ref b4), .val (.int kk), .val (.long q2), .second, .val (.int (0 : Int32)), .unset, .unset]) rfl ?_
                  rw [show ll = q2 from e_ll.trans (by rw [own_l, if_neg c17_0, if_neg c17_1, if_neg c17_2, if_neg c17_3, if_neg c17_4, if_neg c17_5]), show xx = (0 : Int32) from e_xx.trans (by rw [own_x, if_neg c17_0, if_neg c17_1, if_neg c17_2, if_neg c17_3, if_neg c17_4, if_neg c17_5])] at kt
                  show Steps p.tables e below (T4.setTop (mkF m 114 #[.val (.int p1), .val (.long q2), .second, .val (.int p3), .val (.int nn), .val (.ref b4), .val (.int kk), .val (.long q2), .second, .val (.int (0 : Int32)), .unset, .unset] [])) _
                  exact kt
    refine sg17 _ ?_
    show Steps p.tables e below (T4.setTop (mkF m 114 #[.val (.int p1), .val (.long q2), .second, .val (.int p3), .val (.int nn), .val (.ref b4), .val (.int kk), .val (.long ll), .second, .val (.int xx), .unset, .unset] [])) _
    refine st5 _ ?_
    show Steps p.tables e below (T5.setTop (mkF m 117 #[.val (.int p1), .val (.long q2), .second, .val (.int p3), .val (.int nn), .val (.ref b4), .val (.int kk), .val (.long ll), .second, .val (.int xx), .unset, .unset] [(.ref b5)])) _
    refine XS.dup X5.here hx rfl (hb hby at_117) rfl rfl ?_
    show Steps p.tables e below (T5.setTop (mkF m 118 #[.val (.int p1), .val (.long q2), .second, .val (.int p3), .val (.int nn), .val (.ref b4), .val (.int kk), .val (.long ll), .second, .val (.int xx), .unset, .unset] [(.ref b5), (.ref b5)])) _
    refine XS.aload X5.here hx rfl (hb hby at_118) rfl rfl ?_
    show Steps p.tables e below (T5.setTop (mkF m 120 #[.val (.int p1), .val (.long q2), .second, .val (.int p3), .val (.int nn), .val (.ref b4), .val (.int kk), .val (.long ll), .second, .val (.int xx), .unset, .unset] [(.ref b4), (.ref b5), (.ref b5)])) _
    refine XS.lload X5.here hx rfl (hb hby at_120) rfl ?_
    show Steps p.tables e below (T5.setTop (mkF m 122 #[.val (.int p1), .val (.long q2), .second, .val (.int p3), .val (.int nn), .val (.ref b4), .val (.int kk), .val (.long ll), .second, .val (.int xx), .unset, .unset] [(.long ll), (.ref b4), (.ref b5), (.ref b5)])) _
    refine st6.trans ?_
    show Steps p.tables e below (T6.setTop (mkF m 125 #[.val (.int p1), .val (.long q2), .second, .val (.int p3), .val (.int nn), .val (.ref b4), .val (.int kk), .val (.long ll), .second, .val (.int xx), .unset, .unset] [(.ref b5)])) _
    refine XS.astore X6.here hx rfl (hb hby at_125) rfl rfl (l' := #[.val (.int p1), .val (.long q2), .second, .val (.int p3), .val (.int nn), .val (.ref b4), .val (.int kk), .val (.long ll), .second, .val (.int xx), .val (.ref b5), .unset]) rfl ?_
    show Steps p.tables e below (T6.setTop (mkF m 127 #[.val (.int p1), .val (.long q2), .second, .val (.int p3), .val (.int nn), .val (.ref b4), .val (.int kk), .val (.long ll), .second, .val (.int xx), .val (.ref b5), .unset] [])) _
    refine XS.aload X6.here hx rfl (hb hby at_127) rfl rfl ?_
    show Steps p.tables e below (T6.setTop (mkF m 129 #[.val (.int p1), .val (.long q2), .second, .val (.int p3), .val (.int nn), .val (.ref b4), .val (.int kk), .val (.long ll), .second, .val (.int xx), .val (.ref b5), .unset] [(.ref b5)])) _
    refine st7.trans ?_
    show Steps p.tables e below (T7.setTop (mkF m 132 #[.val (.int p1), .val (.long q2), .second, .val (.int p3), .val (.int nn), .val (.ref b4), .val (.int kk), .val (.long ll), .second, .val (.int xx), .val (.ref b5), .unset] [(.int (own_whole ll nn))])) _
    refine XS.istore X7.here hx rfl (hb hby at_132) rfl (l' := #[.val (.int p1), .val (.long q2), .second, .val (.int p3), .val (.int nn), .val (.ref b4), .val (.int kk), .val (.long ll), .second, .val (.int xx), .val (.ref b5), .val (.int (own_whole ll nn))]) rfl ?_
    show Steps p.tables e below (T7.setTop (mkF m 134 #[.val (.int p1), .val (.long q2), .second, .val (.int p3), .val (.int nn), .val (.ref b4), .val (.int kk), .val (.long ll), .second, .val (.int xx), .val (.ref b5), .val (.int (own_whole ll nn))] [])) _
    refine XS.iload X7.here hx rfl (hb hby at_134) rfl ?_
    show Steps p.tables e below (T7.setTop (mkF m 136 #[.val (.int p1), .val (.long q2), .second, .val (.int p3), .val (.int nn), .val (.ref b4), .val (.int kk), .val (.long ll), .second, .val (.int xx), .val (.ref b5), .val (.int (own_whole ll nn))] [(.int (own_whole ll nn))])) _
    refine XS.iload X7.here hx rfl (hb hby at_136) rfl ?_
    show Steps p.tables e below (T7.setTop (mkF m 138 #[.val (.int p1), .val (.long q2), .second, .val (.int p3), .val (.int nn), .val (.ref b4), .val (.int kk), .val (.long ll), .second, .val (.int xx), .val (.ref b5), .val (.int (own_whole ll nn))] [(.int xx), (.int (own_whole ll nn))])) _
    refine XS.icmpNo X7.here hx rfl (hb hby at_138) rfl (teq hwx).2 ?_
    show Steps p.tables e below (T7.setTop (mkF m 141 #[.val (.int p1), .val (.long q2), .second, .val (.int p3), .val (.int nn), .val (.ref b4), .val (.int kk), .val (.long ll), .second, .val (.int xx), .val (.ref b5), .val (.int (own_whole ll nn))] [])) _
    refine XS.aload X7.here hx rfl (hb hby at_141) rfl rfl ?_
    show Steps p.tables e below (T7.setTop (mkF m 143 #[.val (.int p1), .val (.long q2), .second, .val (.int p3), .val (.int nn), .val (.ref b4), .val (.int kk), .val (.long ll), .second, .val (.int xx), .val (.ref b5), .val (.int (own_whole ll nn))] [(.ref b5)])) _
    refine st8.trans ?_
    show Steps p.tables e below (T8.setTop (mkF m 146 #[.val (.int p1), .val (.long q2), .second, .val (.int p3), .val (.int nn), .val (.ref b4), .val (.int kk), .val (.long ll), .second, .val (.int xx), .val (.ref b5), .val (.int (own_whole ll nn))] [(.long ll)])) _
    refine XS.lload X8.here hx rfl (hb hby at_146) rfl ?_
    show Steps p.tables e below (T8.setTop (mkF m 148 #[.val (.int p1), .val (.long q2), .second, .val (.int p3), .val (.int nn), .val (.ref b4), .val (.int kk), .val (.long ll), .second, .val (.int xx), .val (.ref b5), .val (.int (own_whole ll nn))] [(.long ll), (.long ll)])) _
    refine XS.lcmp X8.here hx rfl (hb hby at_148) rfl ?_
    show Steps p.tables e below (T8.setTop (mkF m 149 #[.val (.int p1), .val (.long q2), .second, .val (.int p3), .val (.int nn), .val (.ref b4), .val (.int kk), .val (.long ll), .second, .val (.int xx), .val (.ref b5), .val (.int (own_whole ll nn))] [(.int (lcmpW ll ll))])) _
    refine XS.ifNo X8.here hx rfl (hb hby at_149) rfl ((if0 _ _).trans (teq ((lw_eq _ _).mpr rfl)).2) ?_
    show Steps p.tables e below (T8.setTop (mkF m 152 #[.val (.int p1), .val (.long q2), .second, .val (.int p3), .val (.int nn), .val (.ref b4), .val (.int kk), .val (.long ll), .second, .val (.int xx), .val (.ref b5), .val (.int (own_whole ll nn))] [])) _
    refine XS.aload X8.here hx rfl (hb hby at_152) rfl rfl ?_
    show Steps p.tables e below (T8.setTop (mkF m 154 #[.val (.int p1), .val (.long q2), .second, .val (.int p3), .val (.int nn), .val (.ref b4), .val (.int kk), .val (.long ll), .second, .val (.int xx), .val (.ref b5), .val (.int (own_whole ll nn))] [(.ref b5)])) _
    refine st9.trans ?_
    show Steps p.tables e below (T9.setTop (mkF m 157 #[.val (.int p1), .val (.long q2), .second, .val (.int p3), .val (.int nn), .val (.ref b4), .val (.int kk), .val (.long ll), .second, .val (.int xx), .val (.ref b5), .val (.int (own_whole ll nn))] [(.ref b4)])) _
    refine XS.aload X9.here hx rfl (hb hby at_157) rfl rfl ?_
    show Steps p.tables e below (T9.setTop (mkF m 159 #[.val (.int p1), .val (.long q2), .second, .val (.int p3), .val (.int nn), .val (.ref b4), .val (.int kk), .val (.long ll), .second, .val (.int xx), .val (.ref b5), .val (.int (own_whole ll nn))] [(.ref b4), (.ref b4)])) _
    refine Jvm.RoadKit.acmp (g := (mkF m 159 #[.val (.int p1), .val (.long q2), .second, .val (.int p3), .val (.int nn), .val (.ref b4), .val (.int kk), .val (.long ll), .second, .val (.int xx), .val (.ref b5), .val (.int (own_whole ll nn))] [(.ref b4), (.ref b4)])) X9 hx rfl rfl rfl (pc0 := 159) (pc' := 162) (same := true) rfl (hb hby at_159) rfl (decide_eq_true rfl) (by decide) (by decide) ?_
    show Steps p.tables e below (T9.setTop (mkF m 162 #[.val (.int p1), .val (.long q2), .second, .val (.int p3), .val (.int nn), .val (.ref b4), .val (.int kk), .val (.long ll), .second, .val (.int xx), .val (.ref b5), .val (.int (own_whole ll nn))] [])) _
    refine XS.iconst X9.here hx rfl (hb hby at_162) ?_
    show Steps p.tables e below (T9.setTop (mkF m 163 #[.val (.int p1), .val (.long q2), .second, .val (.int p3), .val (.int nn), .val (.ref b4), .val (.int kk), .val (.long ll), .second, .val (.int xx), .val (.ref b5), .val (.int (own_whole ll nn))] [(.int (1 : Int32))])) _
    refine XS.goto X9.here hx rfl (pc0 := 163) (pc' := 167) rfl (hb hby at_163) (by decide) (by decide) ?_
    show Steps p.tables e below (T9.setTop (mkF m 167 #[.val (.int p1), .val (.long q2), .second, .val (.int p3), .val (.int nn), .val (.ref b4), .val (.int kk), .val (.long ll), .second, .val (.int xx), .val (.ref b5), .val (.int (own_whole ll nn))] [(.int (1 : Int32))])) _
    exact retN X9 hx (t := .boolean) Bd.returns (by simp) (hb hby at_167) hr
  · show Q0 Z p1 q2 p3 h0 n0 _ T9.heap _
    exact ⟨rfl, N9⟩
set_option maxRecDepth 65536 in
set_option maxHeartbeats 40000000 in
theorem comes_1 {Post : Tables → Env → Array Value → State → Outcome → State → Prop} (hpost : ∀ tb e args s v u, (limb_1_1.after args s (.returned v) u = true ∧ limb_1_2.after args s (.returned v) u = true ∧ True) → FrameEnd s (.returned v) u (Jvm.fieldLocs frame_1_writes args s ++ Jvm.arrayLocs frame_1_arrays args s ++ Jvm.staticLocs frame_1_statics s) 16 128 → Post tb e args s (.returned v) u) :
    ArmFor flags0 classFile x code maxLocals ret World_1 tables_1 room_1 Calls_1 rest_1 Pre_1 Post := by
  intro l hfl _ _ p e ha hc hk s m args below hf hA hF happ hP
  obtain ⟨hcalls, hrest, hpre⟩ := hP
  obtain ⟨-, -, -, hnamed, -, -, -, hat⟩ := (Spec.applies_iff hf).mp happ
  obtain ⟨hg, hn⟩ := and_e (Cond.before_iff.mp (show (Jvm.Cond.and given_1 narrow_1).before args s = true from hpre))
  obtain ⟨gc, gr0⟩ := and_e hg
  obtain ⟨ga0, gr1⟩ := and_e gr0
  obtain ⟨ga1, gr2⟩ := and_e gr1
  have ga2 := gr2
  obtain ⟨w0, w1, w2, rfl⟩ : ∃ w0 w1 w2 : Value, args = #[w0, w1, w2] := by
    have hs : args.size = 3 := by simpa [Cond.value, given_1] using gc
    obtain ⟨L⟩ := args
    match L, hs with
    | [w0, w1, w2], _ => exact ⟨w0, w1, w2, rfl⟩
  have hw := fun d (hd : d ∈ tables_1) => atoms_spec (ws := Jvm.Cond.code x code maxLocals ret :: tables_1) hat d (List.mem_cons_of_mem _ hd)
  obtain ⟨i0, ei0⟩ := is_v ga0
  obtain rfl : w0 = (.int i0) := Option.some.inj ei0
  obtain ⟨i1, ei1⟩ := isL_v ga1
  obtain rfl : w1 = (.long i1) := Option.some.inj ei1
  obtain ⟨i2, ei2⟩ := is_v ga2
  obtain rfl : w2 = (.int i2) := Option.some.inj ei2
  obtain ⟨n, o, h1, h2, h3, _, L, rfl, ⟨rfl, N⟩, hq⟩ := rm0 l s _ hw tables_1 i0 i1 i2 s.heap s.heap.size (Nat.le_refl _) p e ha hc hk s m _ below hf ((Spec.applies_iff_loose hf).mp happ).1 ⟨rfl, State.Warmed39.refl s, rfl⟩ trivial
  refine ⟨n, _, h1, h2, h3, hpost _ _ _ _ _ _ ⟨Cond.after_iff.mpr rfl, Cond.after_iff.mpr (eq_i res_at (Term.int_eval (1)) rfl), trivial⟩ ⟨hq.1, hq.2.1, (hq.2.2.sift fun y hy => Or.inr (N y hy)).mono (by decide) (by decide)⟩⟩
theorem main_1_1 : Claimed_1_1 := comes_1 fun _ _ _ _ _ _ h hF => ⟨h.1, hF⟩
theorem main_1_2 : Claimed_1_2 := comes_1 fun _ _ _ _ _ _ h hF => ⟨h.2.1, hF⟩
end Jvm.Pilot.@@N@@
namespace Jvm.Pilot.@@N@@
open Jvm Jvm.ClassFile Sem Op Lib Jvm.Free Jvm.Stand Jvm.Pilot.@@N@@.Jvm.D
/-! MADE BY PROGRAM (witnessworld.py) out of the Statement's table words and the real class files: 10 classes; the members and pool entries that the words name. The judged class is class 1, her method 1. -/
namespace start1
open Jvm.ClassFile
def u (s : String) : CpInfo := .utf8 (stringToUtf16 s)
/-- a pool by its gaps: so many unusable entries, then the entry; so many at the end -/
def gap : Nat → List CpInfo → List CpInfo
  | 0, r => r
  | n + 1, r => .unusable :: gap n r
def poolList (es : List (Nat × CpInfo)) (last : Nat) : List CpInfo := es.foldr (fun e r => gap e.1 (e.2 :: r)) (gap last [])
def pool (es : List (Nat × CpInfo)) (last : Nat) : Array CpInfo := ⟨poolList es last⟩
def fileOf (pool : Array CpInfo) (this : Nat) (attrs : Array Attribute := #[]) (ms : Array MethodInfo := #[]) (fl : Nat := 33) (sup : Nat := 0) (ifs : Array Nat := #[]) (fds : Array FieldInfo := #[]) : ClassFile where
  minorVersion := 0
  majorVersion := 65
  constantPool := pool
  accessFlags := fl
  thisClass := this
  superClass := sup
  interfaces := ifs
  fields := fds
  methods := ms
  attributes := attrs
def plain (name : String) (sup : Option ClassId) : Class where
  name := name
  kind := .ordinary
  loader := none
  accessFlags := 33
  super := sup
  interfaces := #[]
  cf := none
  fields := #[]
  methods := #[]
  instanceTypes := #[]
  staticTypes := #[]
  resolved := #[]
  callSites := []
  init := .initialized
  statics := none
  mirror := none

def pool0 : Array CpInfo := pool [(5, u "<init>"), (0, u "()V"), (1, .class_ 10), (1, u "java/lang/Object")] 113

def k0c0 : Code := { maxStack := 0, maxLocals := 1, code := object_method_1_code, exceptionTable := #[], attributes := #[] }
def k0m0 : Method := { name := "<init>", desc := "()V", sig := { parameters := [], returnType := none }, accessFlags := 1, code := some k0c0 }
/-- java/lang/Object -/
def k0 : Class := { plain "java/lang/Object" none with
  accessFlags := 33
  interfaces := #[]
  cf := some (fileOf pool0 8 #[] #[{ accessFlags := 1, nameIndex := 5, descriptorIndex := 6, attributes := #[] }] 33 0 #[] #[])
  fields := #[]
  methods := #[k0m0]
  instanceTypes := #[]
  staticTypes := #[]
  resolved := Array.replicate 124 none
  statics := none }

def pool1 : Array CpInfo := pool [(2, .class_ 4), (1, u "java/lang/Object"), (0, u "<init>"), (0, u "()V"), (0, .long 7), (1, .class_ 10), (0, u "com/example/hemalink/hemalink/lis/Mllp$Block"), (0, .methodref 9 12), (0, .nameAndType 5 13), (0, u "([BJ)V"), (0, .methodref 9 15), (0, .nameAndType 16 17), (0, u "whole"), (0, u "()Z"), (0, .methodref 9 19), (0, .nameAndType 20 21), (0, u "length"), (0, u "()J"), (0, .methodref 9 23), (0, .nameAndType 24 25), (0, u "message"), (0, u "()[B"), (0, .class_ 27), (0, u "com/example/hemalink/hemalink/lis/BlockWholePinLaw"), (2, u "law"), (0, u "(IJI)Z")] 9

def k1m0 : Method := { name := "<init>", desc := "()V", sig := { parameters := [], returnType := none }, accessFlags := 2, code := none }
def k1c1 : Code := { maxStack := 5, maxLocals := 12, code := code, exceptionTable := #[], attributes := #[] }
def k1m1 : Method := { name := "law", desc := "(IJI)Z", sig := { parameters := [.int, .long, .int], returnType := some .boolean }, accessFlags := 9, code := some k1c1 }
/-- com/example/hemalink/hemalink/lis/BlockWholePinLaw -/
def k1 : Class := { plain "com/example/hemalink/hemalink/lis/BlockWholePinLaw" (some 0) with
  accessFlags := 49
  interfaces := #[]
  cf := some (fileOf pool1 26 #[] #[{ accessFlags := 2, nameIndex := 5, descriptorIndex := 6, attributes := #[] }, { accessFlags := 9, nameIndex := 30, descriptorIndex := 31, attributes := #[] }] 49 2 #[] #[])
  fields := #[]
  methods := #[k1m0, k1m1]
  instanceTypes := #[]
  staticTypes := #[]
  resolved := Array.replicate 41 none
  statics := none }

def pool2 : Array CpInfo := pool [(1, .methodref 2 3), (0, .class_ 4), (0, .nameAndType 5 6), (0, u "java/lang/Object"), (0, u "<init>"), (0, u "()V"), (0, .class_ 8), (0, u "java/lang/Record")] 13

def k2c0 : Code := { maxStack := 1, maxLocals := 1, code := jdk_30_method_1_code, exceptionTable := #[], attributes := #[] }
def k2m0 : Method := { name := "<init>", desc := "()V", sig := { parameters := [], returnType := none }, accessFlags := 4, code := some k2c0 }
/-- java/lang/Record -/
def k2 : Class := { plain "java/lang/Record" (some 0) with
  accessFlags := 1057
  interfaces := #[]
  cf := some (fileOf pool2 7 #[] #[{ accessFlags := 4, nameIndex := 5, descriptorIndex := 6, attributes := #[] }] 1057 2 #[] #[])
  fields := #[]
  methods := #[k2m0]
  instanceTypes := #[]
  staticTypes := #[]
  resolved := Array.replicate 22 none
  statics := none }

def pool3 : Array CpInfo := pool [(1, .methodref 2 3), (0, .class_ 4), (0, .nameAndType 5 6), (0, u "java/lang/Record"), (0, u "<init>"), (0, u "()V"), (0, .fieldref 8 9), (0, .class_ 10), (0, .nameAndType 11 12), (0, u "com/example/hemalink/hemalink/lis/Mllp$Block"), (0, u "message"), (0, u "[B"), (0, .fieldref 8 14), (0, .nameAndType 15 16), (0, u "length"), (0, u "J"), (12, u "([BJ)V"), (3, u "whole"), (0, u "()Z"), (4, u "()[B"), (0, u "()J"), (3, .class_ 45), (0, u "com/example/hemalink/hemalink/lis/Mllp")] 20

def k3c0 : Code := { maxStack := 3, maxLocals := 4, code := prog_70_method_1_code, exceptionTable := #[], attributes := #[] }
def k3m0 : Method := { name := "<init>", desc := "([BJ)V", sig := { parameters := [(.array .byte), .long], returnType := none }, accessFlags := 1, code := some k3c0 }
def k3c1 : Code := { maxStack := 4, maxLocals := 1, code := prog_70_method_2_code, exceptionTable := #[], attributes := #[] }
def k3m1 : Method := { name := "whole", desc := "()Z", sig := { parameters := [], returnType := some .boolean }, accessFlags := 1, code := some k3c1 }
def k3c2 : Code := { maxStack := 1, maxLocals := 1, code := prog_70_method_6_code, exceptionTable := #[], attributes := #[] }
def k3m2 : Method := { name := "message", desc := "()[B", sig := { parameters := [], returnType := some (.array .byte) }, accessFlags := 1, code := some k3c2 }
def k3c3 : Code := { maxStack := 2, maxLocals := 1, code := prog_70_method_7_code, exceptionTable := #[], attributes := #[] }
def k3m3 : Method := { name := "length", desc := "()J", sig := { parameters := [], returnType := some .long }, accessFlags := 1, code := some k3c3 }
/-- com/example/hemalink/hemalink/lis/Mllp$Block -/
def k3 : Class := { plain "com/example/hemalink/hemalink/lis/Mllp$Block" (some 2) with
  accessFlags := 49
  interfaces := #[]
  cf := some (fileOf pool3 8 #[.nestHost 44] #[{ accessFlags := 1, nameIndex := 5, descriptorIndex := 29, attributes := #[] }, { accessFlags := 1, nameIndex := 33, descriptorIndex := 34, attributes := #[] }, { accessFlags := 1, nameIndex := 11, descriptorIndex := 39, attributes := #[] }, { accessFlags := 1, nameIndex := 15, descriptorIndex := 40, attributes := #[] }] 49 2 #[] #[{ accessFlags := 18, nameIndex := 11, descriptorIndex := 12, attributes := #[] }, { accessFlags := 18, nameIndex := 15, descriptorIndex := 16, attributes := #[] }])
  fields := #[{ name := "message", type := (.array .byte), accessFlags := 18, slot := 0, constantValue := 0 }, { name := "length", type := .long, accessFlags := 18, slot := 1, constantValue := 0 }]
  methods := #[k3m0, k3m1, k3m2, k3m3]
  instanceTypes := #[(.array .byte), .long]
  staticTypes := #[]
  resolved := Array.replicate 66 none
  statics := none }

def pool4 : Array CpInfo := pool [(1, u "java/lang/Cloneable"), (0, .class_ 1), (0, u "java/lang/Object"), (0, .class_ 3)] 3

/-- java/lang/Cloneable -/
def k4 : Class := { plain "java/lang/Cloneable" (some 0) with
  accessFlags := 1537
  interfaces := #[]
  cf := some (fileOf pool4 2 #[] #[] 1537 4 #[] #[])
  fields := #[]
  methods := #[]
  instanceTypes := #[]
  staticTypes := #[]
  resolved := Array.replicate 8 none
  statics := none }

def pool5 : Array CpInfo := pool [(1, u "java/io/Serializable"), (0, .class_ 1), (0, u "java/lang/Object"), (0, .class_ 3)] 3

/-- java/io/Serializable -/
def k5 : Class := { plain "java/io/Serializable" (some 0) with
  accessFlags := 1537
  interfaces := #[]
  cf := some (fileOf pool5 2 #[] #[] 1537 4 #[] #[])
  fields := #[]
  methods := #[]
  instanceTypes := #[]
  staticTypes := #[]
  resolved := Array.replicate 8 none
  statics := none }

/-- the primitive byte -/
def k6 : Class := { plain "byte" none with kind := .primitive 'B', accessFlags := 0x411 }
/-- [B -/
def k7 : Class := { plain "[B" (some 0) with kind := .array 6 .byte, interfaces := #[4, 5], accessFlags := 1041 }

/-- the primitive int -/
def k8 : Class := { plain "int" none with kind := .primitive 'I', accessFlags := 0x411 }
/-- [I -/
def k9 : Class := { plain "[I" (some 0) with kind := .array 8 .int, interfaces := #[4, 5], accessFlags := 1041 }

def heap : Heap := #[]
def classes : Array Class := #[k0, k1, k2, k3, k4, k5, k6, k7, k8, k9]
def interned : List (Array UInt16 × Addr) := []
def slotsUsed : Nat := 0
def theMethod : MethodId := ⟨1, 1⟩
def args0 : Array Value := #[.int 3, .long 2, .int 1]
def aboutOver (below : List Frame) : State where
  vm := { classes := classes, interned := interned.toArray }
  heap := heap
  slotsUsed := slotsUsed
  threads := #[{ frames := .invoking theMethod args0 :: below }]
def below0 : List Frame := [.native { method := ⟨0, 0⟩, args := #[] }]
def about1 : State := aboutOver below0
def p0 : Program := .bare "" "" ""
def e0 : Env := launch0.env 0 0 0
theorem w_frames : about1.frames = Frame.invoking theMethod args0 :: below0 := rfl
set_option maxRecDepth 65536 in
theorem w_args : argsFit about1.vm theMethod args0 = true := by decide +kernel
set_option maxRecDepth 65536 in
theorem w_heap : heapFits about1 = true := by decide +kernel
set_option maxRecDepth 65536 in
theorem w_runnable : about1.curStatus? = some .runnable := by decide +kernel
set_option maxRecDepth 65536 in
theorem w_alone : about1.alone = true := by decide +kernel
set_option maxRecDepth 65536 in
theorem w_named : about1.methodNamed? x = some theMethod := by decide +kernel
set_option maxRecDepth 65536 in
theorem w_hears : about1.hears theMethod below0 = true := by decide +kernel
set_option maxRecDepth 65536 in
theorem w_ripe : about1.ripe theMethod args0 below0 = true := by decide +kernel
theorem w_running : about1.status = .running := rfl
set_option maxRecDepth 65536 in
theorem w_room : about1.hasRoom e0.platform room_1 = true :=
  launch0.hasRoom_least _ room_1 (by decide +kernel) (by decide +kernel) (by decide +kernel) (by decide +kernel) (by decide +kernel) (by decide +kernel)
theorem allAtoms_all (ts : List Jvm.Cond) (a : Array Jvm.Value) (st : Jvm.State) : (allAtoms ts).before a st = ts.all (fun c => c.before a st) := by
  induction ts with
  | nil => rfl
  | cons c t ih =>
    show (Jvm.Cond.and c (allAtoms t)).before a st = _
    rw [Jvm.Cond.before_and, ih, List.all_cons]
def words1 : List Jvm.Cond := Jvm.Cond.code x code maxLocals ret :: tables_1
/-- a 'code' word, met by the world's own term for the bytes: nothing is compared byte by byte -/
theorem code_word {y : MethodName} {bytes : ByteArray} {mx : Nat} {rt : Option FieldType} {a : Array Value} {s : State} {m : MethodId} {meth : Method} {c : Code} (h1 : s.methodNamed? y = some m) (h2 : s.vm.method? m = some meth) (h3 : meth.code = some c) (h4 : c.code = bytes)
    (h5 : (c.maxLocals == mx && c.exceptionTable.isEmpty && decide (c.maxStack ≤ mostOperands) && decide (meth.sig.returnType = rt) && !meth.locks && decide (parseMethodDescriptor y.desc = some meth.sig)) = true) : (Jvm.Cond.code y bytes mx rt).before a s = true := by
  simp only [Bool.and_eq_true, beq_iff_eq, Bool.not_eq_true', decide_eq_true_eq] at h5
  obtain ⟨⟨⟨⟨⟨g1, g2⟩, g3⟩, g4⟩, g5⟩, g6⟩ := h5
  simp [Cond.before, Cond.holds, Cond.value, h1, h2, h3, h4, g1, g2, g3, g4, g5, g6]
def isCode : Jvm.Cond → Bool
  | .code _ _ _ _ => true
  | _ => false
theorem all_split {L : List Jvm.Cond} {P : Jvm.Cond → Bool} (h1 : L.all (fun c => isCode c || P c) = true) (h2 : ∀ c ∈ L.filter isCode, P c = true) : L.all P = true := by
  refine List.all_eq_true.mpr fun c hc => ?_
  have h := List.all_eq_true.mp h1 c hc
  rcases Bool.eq_false_or_eq_true (isCode c) with hi | hi
  · exact h2 c (List.mem_filter.mpr ⟨hc, hi⟩)
  · simpa [hi] using h
set_option maxRecDepth 65536 in
theorem w_c0 : (Jvm.Cond.code x code maxLocals ret).before args0 about1 = true := code_word (m := ⟨1, 1⟩) (meth := k1m1) (c := k1c1) (by decide +kernel) rfl rfl rfl (by decide +kernel)
set_option maxRecDepth 65536 in
theorem w_c1 : (Jvm.Cond.code ({ cls := "com/example/hemalink/hemalink/lis/Mllp$Block", name := "<init>", desc := "([BJ)V" } : Jvm.MethodName) prog_70_method_1_code (4 : Nat) (Option.none : Option Jvm.ClassFile.FieldType)).before args0 about1 = true := code_word (m := ⟨3, 0⟩) (meth := k3m0) (c := k3c0) (by decide +kernel) rfl rfl rfl (by decide +kernel)
set_option maxRecDepth 65536 in
theorem w_c2 : (Jvm.Cond.code ({ cls := "java/lang/Record", name := "<init>", desc := "()V" } : Jvm.MethodName) jdk_30_method_1_code (1 : Nat) (Option.none : Option Jvm.ClassFile.FieldType)).before args0 about1 = true := code_word (m := ⟨2, 0⟩) (meth := k2m0) (c := k2c0) (by decide +kernel) rfl rfl rfl (by decide +kernel)
set_option maxRecDepth 65536 in
theorem w_c3 : (Jvm.Cond.code ({ cls := "java/lang/Object", name := "<init>", desc := "()V" } : Jvm.MethodName) object_method_1_code (1 : Nat) (Option.none : Option Jvm.ClassFile.FieldType)).before args0 about1 = true := code_word (m := ⟨0, 0⟩) (meth := k0m0) (c := k0c0) (by decide +kernel) rfl rfl rfl (by decide +kernel)
set_option maxRecDepth 65536 in
theorem w_c4 : (Jvm.Cond.code ({ cls := "com/example/hemalink/hemalink/lis/Mllp$Block", name := "whole", desc := "()Z" } : Jvm.MethodName) prog_70_method_2_code (1 : Nat) (Option.some Jvm.ClassFile.FieldType.boolean)).before args0 about1 = true := code_word (m := ⟨3, 1⟩) (meth := k3m1) (c := k3c1) (by decide +kernel) rfl rfl rfl (by decide +kernel)
set_option maxRecDepth 65536 in
theorem w_c5 : (Jvm.Cond.code ({ cls := "com/example/hemalink/hemalink/lis/Mllp$Block", name := "length", desc := "()J" } : Jvm.MethodName) prog_70_method_7_code (1 : Nat) (Option.some Jvm.ClassFile.FieldType.long)).before args0 about1 = true := code_word (m := ⟨3, 3⟩) (meth := k3m3) (c := k3c3) (by decide +kernel) rfl rfl rfl (by decide +kernel)
set_option maxRecDepth 65536 in
theorem w_c6 : (Jvm.Cond.code ({ cls := "com/example/hemalink/hemalink/lis/Mllp$Block", name := "message", desc := "()[B" } : Jvm.MethodName) prog_70_method_6_code (1 : Nat) (Option.some (Jvm.ClassFile.FieldType.array Jvm.ClassFile.FieldType.byte))).before args0 about1 = true := code_word (m := ⟨3, 2⟩) (meth := k3m2) (c := k3c2) (by decide +kernel) rfl rfl rfl (by decide +kernel)
def codes1 : List Jvm.Cond := [Jvm.Cond.code x code maxLocals ret, Jvm.Cond.code ({ cls := "com/example/hemalink/hemalink/lis/Mllp$Block", name := "<init>", desc := "([BJ)V" } : Jvm.MethodName) prog_70_method_1_code (4 : Nat) (Option.none : Option Jvm.ClassFile.FieldType), Jvm.Cond.code ({ cls := "java/lang/Record", name := "<init>", desc := "()V" } : Jvm.MethodName) jdk_30_method_1_code (1 : Nat) (Option.none : Option Jvm.ClassFile.FieldType), Jvm.Cond.code ({ cls := "java/lang/Object", name := "<init>", desc := "()V" } : Jvm.MethodName) object_method_1_code (1 : Nat) (Option.none : Option Jvm.ClassFile.FieldType), Jvm.Cond.code ({ cls := "com/example/hemalink/hemalink/lis/Mllp$Block", name := "whole", desc := "()Z" } : Jvm.MethodName) prog_70_method_2_code (1 : Nat) (Option.some Jvm.ClassFile.FieldType.boolean), Jvm.Cond.code ({ cls := "com/example/hemalink/hemalink/lis/Mllp$Block", name := "length", desc := "()J" } : Jvm.MethodName) prog_70_method_7_code (1 : Nat) (Option.some Jvm.ClassFile.FieldType.long), Jvm.Cond.code ({ cls := "com/example/hemalink/hemalink/lis/Mllp$Block", name := "message", desc := "()[B" } : Jvm.MethodName) prog_70_method_6_code (1 : Nat) (Option.some (Jvm.ClassFile.FieldType.array Jvm.ClassFile.FieldType.byte))]
set_option maxRecDepth 65536 in
theorem codes_eq : words1.filter isCode = codes1 := rfl
theorem w_codes : ∀ c ∈ words1.filter isCode, c.before args0 about1 = true := by
  rw [codes_eq]
  intro c hc
  simp only [codes1, List.mem_cons, List.not_mem_nil, or_false] at hc
  rcases hc with rfl | rfl | rfl | rfl | rfl | rfl | rfl
  · exact w_c0
  · exact w_c1
  · exact w_c2
  · exact w_c3
  · exact w_c4
  · exact w_c5
  · exact w_c6
set_option maxRecDepth 65536 in
theorem w_t1 : (words1.take 24).all (fun c => isCode c || c.before args0 about1) = true := by decide +kernel
set_option maxRecDepth 65536 in
theorem w_t2 : (words1.drop 24).all (fun c => isCode c || c.before args0 about1) = true := by decide +kernel
theorem w_tables : (allAtoms (Jvm.Cond.code x code maxLocals ret :: tables_1)).before args0 about1 = true := by
  rw [allAtoms_all]
  show words1.all (fun c => c.before args0 about1) = true
  refine all_split ?_ w_codes
  rw [← List.take_append_drop 24 words1, List.all_append, w_t1, w_t2]
  rfl
set_option maxRecDepth 65536 in
theorem w_case : (Jvm.Cond.and given_1 narrow_1).before args0 about1 = true := by decide +kernel
theorem w_applies : (headSpec (Jvm.Cond.code x code maxLocals ret :: tables_1) room_1).applies x e0.platform about1 = true :=
  (Spec.applies_iff w_frames).mpr ⟨w_running, w_runnable, w_alone, w_named, w_hears, w_ripe, w_room, w_tables⟩
theorem atStart : AtStart classFile x code maxLocals ret World_1 tables_1 room_1 Calls_1 rest_1 Pre_1 launch0 p0 e0 about1 theMethod args0 below0 :=
  ⟨lists_1, trivial, launch0.admits_env _ _ _, launch0.least_env, fairChoices_fair.cas, fairChoices_fair.clock, w_frames, w_args, w_heap, w_applies, trivial, trivial, w_case⟩
end start1
theorem witness_1 : WitnessClaimed_1 := ⟨start1.p0, start1.e0, start1.about1, start1.theMethod, start1.args0, start1.below0, start1.atStart⟩
end Jvm.Pilot.@@N@@
