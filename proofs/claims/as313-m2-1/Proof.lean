import JvmDerived
import JvmDerived.Pilot.@@N@@Statement
import JvmDerived.Pilot.@@N@@Code
set_option linter.unusedVariables false
set_option linter.unusedSimpArgs false
@@BLOCK:NumsL.lean.txt@@
namespace Jvm.RoadKit
open Sem ClassFile Op Lib Jvm.Stand Jvm.Free Jvm.LawKit
section New
variable {p : Program} {l : Launch} {e : Env} {R : Room} {s : State} {m : MethodId} {args : Array Value} {below : List Frame} {meth : Method} {c : Code} {T : State} {locs : List Loc} {cells slots : Nat}
theorem retI (X : Stand p l e R s m args below meth c T locs cells slots) (hx : p.tables.exec = Jvm.exec) {pc : Nat} {Ls : Array Slot} {z : Int32} {rest : List Value} (hret : meth.sig.returnType = some .int) (hd : decode c.code pc = .ok (.ireturn, 1)) {fs : List Frame}
    (hl : ∀ (f : JFrame) (acts : List Action), f.method = m → f.locked = none → f.entered = [] → (doReturn e (T.setTop f) acts (some (.int z))).1 = T.setFrames fs) : Steps p.tables e below (T.setTop (mkF m pc Ls (.int z :: rest))) (T.setFrames fs) := by
  have hm' : T.vm.method? m = some meth := X.method'
  have hn : narrow .int (.int z) = .int z := rfl
  show Steps p.tables e below (T.setTop { method := m, pc := pc, locals := Ls, stack := _ :: rest, locked := none }) _
  jvm_step X.here [X.here.top, hx, hd, hm', hret, hn]
  first | (intro acts; rw [hl _ acts rfl rfl rfl]) | rw [hl _ _ rfl rfl rfl]
  exact Steps.refl _
end New
end Jvm.RoadKit
namespace Jvm.Pilot.@@N@@
open Jvm Jvm.ClassFile Sem Op Lib Jvm.Free Jvm.Stand Jvm.LawKit Jvm.RoadKit Bundle Jvm.Pilot.@@N@@.Jvm.D

theorem d1_0 : decode prog_14_method_19_code 0 = .ok (.iload_n 0, 1) := by decide +kernel
theorem d1_1 : decode prog_14_method_19_code 1 = .ok (.bipush 97, 2) := by decide +kernel
theorem d1_3 : decode prog_14_method_19_code 3 = .ok (.if_icmp .lt 9, 3) := by decide +kernel
theorem d1_6 : decode prog_14_method_19_code 6 = .ok (.iload_n 0, 1) := by decide +kernel
theorem d1_7 : decode prog_14_method_19_code 7 = .ok (.bipush 122, 2) := by decide +kernel
theorem d1_9 : decode prog_14_method_19_code 9 = .ok (.if_icmp .le 21, 3) := by decide +kernel
theorem d1_12 : decode prog_14_method_19_code 12 = .ok (.iload_n 0, 1) := by decide +kernel
theorem d1_13 : decode prog_14_method_19_code 13 = .ok (.bipush 65, 2) := by decide +kernel
theorem d1_15 : decode prog_14_method_19_code 15 = .ok (.if_icmp .lt 9, 3) := by decide +kernel
theorem d1_18 : decode prog_14_method_19_code 18 = .ok (.iload_n 0, 1) := by decide +kernel
theorem d1_19 : decode prog_14_method_19_code 19 = .ok (.bipush 90, 2) := by decide +kernel
theorem d1_21 : decode prog_14_method_19_code 21 = .ok (.if_icmp .le 9, 3) := by decide +kernel
theorem d1_24 : decode prog_14_method_19_code 24 = .ok (.iload_n 0, 1) := by decide +kernel
theorem d1_25 : decode prog_14_method_19_code 25 = .ok (.bipush 95, 2) := by decide +kernel
theorem d1_27 : decode prog_14_method_19_code 27 = .ok (.if_icmp .ne 7, 3) := by decide +kernel
theorem d1_30 : decode prog_14_method_19_code 30 = .ok (.iconst 1, 1) := by decide +kernel
theorem d1_31 : decode prog_14_method_19_code 31 = .ok (.goto 4, 3) := by decide +kernel
theorem d1_34 : decode prog_14_method_19_code 34 = .ok (.iconst 0, 1) := by decide +kernel
theorem d1_35 : decode prog_14_method_19_code 35 = .ok (.ireturn, 1) := by decide +kernel
theorem pn_1 : plainName "com/example/ferrule_vm/ferrulevm/asm/Lexer" = true := by first | (simp [plainName, overriddenIn]; done) | decide +kernel
theorem pd_1 : parseMethodDescriptor "(C)Z" = some ⟨[.char], some .boolean⟩ := by decide +kernel
theorem ef_1 (m : MethodId) (x0 : Int32) : entryFrame m #[(.int x0)] 1 = mkF m 0 #[.val (.int x0)] [] := by first | (simp [entryFrame, mkF, argsToLocals, Value.category]; done) | rfl
def own_start (p1 : Int32) : Int32 := (if p1 < (97 : Int32) then (if p1 < (65 : Int32) then (if p1 = (95 : Int32) then (1 : Int32) else (0 : Int32)) else (if (90 : Int32) < p1 then (if p1 = (95 : Int32) then (1 : Int32) else (0 : Int32)) else (1 : Int32))) else (if (122 : Int32) < p1 then (if p1 < (65 : Int32) then (if p1 = (95 : Int32) then (1 : Int32) else (0 : Int32)) else (if (90 : Int32) < p1 then (if p1 = (95 : Int32) then (1 : Int32) else (0 : Int32)) else (1 : Int32))) else (1 : Int32)))
def Q1 (Z : State) (p1 : Int32) (h0 : Heap) (n0 : Nat) (v : Option Value) (h : Heap) (L : List Loc) : Prop := v = some (.int (own_start p1)) ∧ Fr n0 L ∧ h = h0
set_option maxRecDepth 65536 in
set_option maxHeartbeats 40000000 in
theorem rm1 (l : Launch) (Z : State) (a0 : Array Value) (hw : ∀ d ∈ tables_1, d.before a0 Z = true) (ws : List Jvm.Cond) (p1 : Int32) (h0 : Heap) (n0 : Nat) (Z0 : n0 ≤ h0.size) :
    MetFree l (⟨"com/example/ferrule_vm/ferrulevm/asm/Lexer", "isNameStart", "(C)Z"⟩ : MethodName) (head1 (Jvm.Cond.code (⟨"com/example/ferrule_vm/ferrulevm/asm/Lexer", "isNameStart", "(C)Z"⟩ : MethodName) prog_14_method_19_code 1 (some .boolean) :: ws) ({ frames := 0, cells := 0, slots := 0, locals := 0 } : Room)) (fun a U => a = #[(.int p1)] ∧ Z.Warmed39 U.vm ∧ U.heap = h0) (fun _ _ _ _ _ => True) (fun _ U o U' => ∃ v L, o = .returned v ∧ Q1 Z p1 h0 n0 v U'.heap L ∧ FrameEnd U o U' L ({ frames := 0, cells := 0, slots := 0, locals := 0 } : Room).cells ({ frames := 0, cells := 0, slots := 0, locals := 0 } : Room).slots) := by
  refine MetFree.of_bodySF (plainFor_of_name pn_1) hisR ?_
  intro p e s m args below meth c s₁ Bd hml0 hP hK
  obtain ⟨rfl, hZ, hh⟩ := hP
  have hx := Bd.exec
  have hby := Bd.bytes
  have hml : c.maxLocals = 1 := hml0
  have hown : s.vm.findClass "com/example/ferrule_vm/ferrulevm/asm/Lexer" = some m.cls := findClass_of_methodNamed Bd.named
  have hnm := (name_of_methodNamed Bd.named Bd.method).1
  have X0 : Stand p l e ({ frames := 0, cells := 0, slots := 0, locals := 0 } : Room) s m #[(.int p1)] below meth c s₁ [] 0 0 := Stand.of_body Bd
  have e0 : s₁.heap = h0 := by rw [← hh, Bd.state]; rfl
  have N0 := Fr.nil n0
  have pre0 : ∀ t, Steps p.tables e below (s₁.setTop (mkF m 0 #[.val (.int p1)] [])) t → Steps p.tables e below (s₁.setTop (entryFrame m #[(.int p1)] 1)) t := fun t k => castTop (ef_1 m p1) k
  obtain ⟨r, er⟩ : ∃ r : Int32, r = own_start p1 := ⟨_, rfl⟩
  obtain ⟨fs, hr, hrun, hended, hW, hsame⟩ := X0.leave (v := some (.int r)) (fun h => by rw [Bd.returns] at h; cases h)
  refine ⟨_, _, pre0 _ ?_, hrun, hended, _, _, rfl, ?_, ⟨_, rfl⟩, hW, hsame.mono (by decide) (by decide)⟩
  ·
    show Steps p.tables e below (s₁.setTop (mkF m 0 #[.val (.int p1)] [])) _
    refine XS.iloadN X0.here hx rfl (hb hby d1_0) rfl ?_
    show Steps p.tables e below (s₁.setTop (mkF m 1 #[.val (.int p1)] [(.int p1)])) _
    refine XS.bipush X0.here hx rfl (hb hby d1_1) ?_
    by_cases cc0 : p1 < (97 : Int32)
    · show Steps p.tables e below (s₁.setTop (mkF m 3 #[.val (.int p1)] [(.int (97 : Int32)), (.int p1)])) _
      refine XS.icmpYes X0.here hx rfl (pc0 := 3) (pc' := 12) rfl (hb hby d1_3) rfl (tlt cc0).1 (by decide) (by decide) ?_
      show Steps p.tables e below (s₁.setTop (mkF m 12 #[.val (.int p1)] [])) _
      refine XS.iloadN X0.here hx rfl (hb hby d1_12) rfl ?_
      show Steps p.tables e below (s₁.setTop (mkF m 13 #[.val (.int p1)] [(.int p1)])) _
      refine XS.bipush X0.here hx rfl (hb hby d1_13) ?_
      by_cases cc1 : p1 < (65 : Int32)
      · show Steps p.tables e below (s₁.setTop (mkF m 15 #[.val (.int p1)] [(.int (65 : Int32)), (.int p1)])) _
        refine XS.icmpYes X0.here hx rfl (pc0 := 15) (pc' := 24) rfl (hb hby d1_15) rfl (tlt cc1).1 (by decide) (by decide) ?_
        show Steps p.tables e below (s₁.setTop (mkF m 24 #[.val (.int p1)] [])) _
        refine XS.iloadN X0.here hx rfl (hb hby d1_24) rfl ?_
        show Steps p.tables e below (s₁.setTop (mkF m 25 #[.val (.int p1)] [(.int p1)])) _
        refine XS.bipush X0.here hx rfl (hb hby d1_25) ?_
        by_cases cc2 : p1 = (95 : Int32)
        · show Steps p.tables e below (s₁.setTop (mkF m 27 #[.val (.int p1)] [(.int (95 : Int32)), (.int p1)])) _
          refine XS.icmpNo X0.here hx rfl (hb hby d1_27) rfl (teq cc2).2 ?_
          show Steps p.tables e below (s₁.setTop (mkF m 30 #[.val (.int p1)] [])) _
          refine XS.iconst X0.here hx rfl (hb hby d1_30) ?_
          show Steps p.tables e below (s₁.setTop (mkF m 31 #[.val (.int p1)] [(.int (1 : Int32))])) _
          refine XS.goto X0.here hx rfl (pc0 := 31) (pc' := 35) rfl (hb hby d1_31) (by decide) (by decide) ?_
          rw [show r = (1 : Int32) from er.trans (by rw [own_start, if_pos cc0, if_pos cc1, if_pos cc2])] at hr
          show Steps p.tables e below (s₁.setTop (mkF m 35 #[.val (.int p1)] [(.int (1 : Int32))])) _
          exact retN X0 hx (t := .boolean) Bd.returns (by simp) (hb hby d1_35) hr
        · show Steps p.tables e below (s₁.setTop (mkF m 27 #[.val (.int p1)] [(.int (95 : Int32)), (.int p1)])) _
          refine XS.icmpYes X0.here hx rfl (pc0 := 27) (pc' := 34) rfl (hb hby d1_27) rfl (feq cc2).2 (by decide) (by decide) ?_
          show Steps p.tables e below (s₁.setTop (mkF m 34 #[.val (.int p1)] [])) _
          refine XS.iconst X0.here hx rfl (hb hby d1_34) ?_
          rw [show r = (0 : Int32) from er.trans (by rw [own_start, if_pos cc0, if_pos cc1, if_neg cc2])] at hr
          show Steps p.tables e below (s₁.setTop (mkF m 35 #[.val (.int p1)] [(.int (0 : Int32))])) _
          exact retN X0 hx (t := .boolean) Bd.returns (by simp) (hb hby d1_35) hr
      · show Steps p.tables e below (s₁.setTop (mkF m 15 #[.val (.int p1)] [(.int (65 : Int32)), (.int p1)])) _
        refine XS.icmpNo X0.here hx rfl (hb hby d1_15) rfl (flt cc1).1 ?_
        show Steps p.tables e below (s₁.setTop (mkF m 18 #[.val (.int p1)] [])) _
        refine XS.iloadN X0.here hx rfl (hb hby d1_18) rfl ?_
        show Steps p.tables e below (s₁.setTop (mkF m 19 #[.val (.int p1)] [(.int p1)])) _
        refine XS.bipush X0.here hx rfl (hb hby d1_19) ?_
        by_cases cc2 : (90 : Int32) < p1
        · show Steps p.tables e below (s₁.setTop (mkF m 21 #[.val (.int p1)] [(.int (90 : Int32)), (.int p1)])) _
          refine XS.icmpNo X0.here hx rfl (hb hby d1_21) rfl (tlt cc2).2.2.2 ?_
          show Steps p.tables e below (s₁.setTop (mkF m 24 #[.val (.int p1)] [])) _
          refine XS.iloadN X0.here hx rfl (hb hby d1_24) rfl ?_
          show Steps p.tables e below (s₁.setTop (mkF m 25 #[.val (.int p1)] [(.int p1)])) _
          refine XS.bipush X0.here hx rfl (hb hby d1_25) ?_
          by_cases cc3 : p1 = (95 : Int32)
          · show Steps p.tables e below (s₁.setTop (mkF m 27 #[.val (.int p1)] [(.int (95 : Int32)), (.int p1)])) _
            refine XS.icmpNo X0.here hx rfl (hb hby d1_27) rfl (teq cc3).2 ?_
            show Steps p.tables e below (s₁.setTop (mkF m 30 #[.val (.int p1)] [])) _
            refine XS.iconst X0.here hx rfl (hb hby d1_30) ?_
            show Steps p.tables e below (s₁.setTop (mkF m 31 #[.val (.int p1)] [(.int (1 : Int32))])) _
            refine XS.goto X0.here hx rfl (pc0 := 31) (pc' := 35) rfl (hb hby d1_31) (by decide) (by decide) ?_
            rw [show r = (1 : Int32) from er.trans (by rw [own_start, if_pos cc0, if_neg cc1, if_pos cc2, if_pos cc3])] at hr
            show Steps p.tables e below (s₁.setTop (mkF m 35 #[.val (.int p1)] [(.int (1 : Int32))])) _
            exact retN X0 hx (t := .boolean) Bd.returns (by simp) (hb hby d1_35) hr
          · show Steps p.tables e below (s₁.setTop (mkF m 27 #[.val (.int p1)] [(.int (95 : Int32)), (.int p1)])) _
            refine XS.icmpYes X0.here hx rfl (pc0 := 27) (pc' := 34) rfl (hb hby d1_27) rfl (feq cc3).2 (by decide) (by decide) ?_
            show Steps p.tables e below (s₁.setTop (mkF m 34 #[.val (.int p1)] [])) _
            refine XS.iconst X0.here hx rfl (hb hby d1_34) ?_
            rw [show r = (0 : Int32) from er.trans (by rw [own_start, if_pos cc0, if_neg cc1, if_pos cc2, if_neg cc3])] at hr
            show Steps p.tables e below (s₁.setTop (mkF m 35 #[.val (.int p1)] [(.int (0 : Int32))])) _
            exact retN X0 hx (t := .boolean) Bd.returns (by simp) (hb hby d1_35) hr
        · show Steps p.tables e below (s₁.setTop (mkF m 21 #[.val (.int p1)] [(.int (90 : Int32)), (.int p1)])) _
          refine XS.icmpYes X0.here hx rfl (pc0 := 21) (pc' := 30) rfl (hb hby d1_21) rfl (flt cc2).2.2.2 (by decide) (by decide) ?_
          show Steps p.tables e below (s₁.setTop (mkF m 30 #[.val (.int p1)] [])) _
          refine XS.iconst X0.here hx rfl (hb hby d1_30) ?_
          show Steps p.tables e below (s₁.setTop (mkF m 31 #[.val (.int p1)] [(.int (1 : Int32))])) _
          refine XS.goto X0.here hx rfl (pc0 := 31) (pc' := 35) rfl (hb hby d1_31) (by decide) (by decide) ?_
          rw [show r = (1 : Int32) from er.trans (by rw [own_start, if_pos cc0, if_neg cc1, if_neg cc2])] at hr
          show Steps p.tables e below (s₁.setTop (mkF m 35 #[.val (.int p1)] [(.int (1 : Int32))])) _
          exact retN X0 hx (t := .boolean) Bd.returns (by simp) (hb hby d1_35) hr
    · show Steps p.tables e below (s₁.setTop (mkF m 3 #[.val (.int p1)] [(.int (97 : Int32)), (.int p1)])) _
      refine XS.icmpNo X0.here hx rfl (hb hby d1_3) rfl (flt cc0).1 ?_
      show Steps p.tables e below (s₁.setTop (mkF m 6 #[.val (.int p1)] [])) _
      refine XS.iloadN X0.here hx rfl (hb hby d1_6) rfl ?_
      show Steps p.tables e below (s₁.setTop (mkF m 7 #[.val (.int p1)] [(.int p1)])) _
      refine XS.bipush X0.here hx rfl (hb hby d1_7) ?_
      by_cases cc1 : (122 : Int32) < p1
      · show Steps p.tables e below (s₁.setTop (mkF m 9 #[.val (.int p1)] [(.int (122 : Int32)), (.int p1)])) _
        refine XS.icmpNo X0.here hx rfl (hb hby d1_9) rfl (tlt cc1).2.2.2 ?_
        show Steps p.tables e below (s₁.setTop (mkF m 12 #[.val (.int p1)] [])) _
        refine XS.iloadN X0.here hx rfl (hb hby d1_12) rfl ?_
        show Steps p.tables e below (s₁.setTop (mkF m 13 #[.val (.int p1)] [(.int p1)])) _
        refine XS.bipush X0.here hx rfl (hb hby d1_13) ?_
        by_cases cc2 : p1 < (65 : Int32)
        · show Steps p.tables e below (s₁.setTop (mkF m 15 #[.val (.int p1)] [(.int (65 : Int32)), (.int p1)])) _
          refine XS.icmpYes X0.here hx rfl (pc0 := 15) (pc' := 24) rfl (hb hby d1_15) rfl (tlt cc2).1 (by decide) (by decide) ?_
          show Steps p.tables e below (s₁.setTop (mkF m 24 #[.val (.int p1)] [])) _
          refine XS.iloadN X0.here hx rfl (hb hby d1_24) rfl ?_
          show Steps p.tables e below (s₁.setTop (mkF m 25 #[.val (.int p1)] [(.int p1)])) _
          refine XS.bipush X0.here hx rfl (hb hby d1_25) ?_
          by_cases cc3 : p1 = (95 : Int32)
          · show Steps p.tables e below (s₁.setTop (mkF m 27 #[.val (.int p1)] [(.int (95 : Int32)), (.int p1)])) _
            refine XS.icmpNo X0.here hx rfl (hb hby d1_27) rfl (teq cc3).2 ?_
            show Steps p.tables e below (s₁.setTop (mkF m 30 #[.val (.int p1)] [])) _
            refine XS.iconst X0.here hx rfl (hb hby d1_30) ?_
            show Steps p.tables e below (s₁.setTop (mkF m 31 #[.val (.int p1)] [(.int (1 : Int32))])) _
            refine XS.goto X0.here hx rfl (pc0 := 31) (pc' := 35) rfl (hb hby d1_31) (by decide) (by decide) ?_
            rw [show r = (1 : Int32) from er.trans (by rw [own_start, if_neg cc0, if_pos cc1, if_pos cc2, if_pos cc3])] at hr
            show Steps p.tables e below (s₁.setTop (mkF m 35 #[.val (.int p1)] [(.int (1 : Int32))])) _
            exact retN X0 hx (t := .boolean) Bd.returns (by simp) (hb hby d1_35) hr
          · show Steps p.tables e below (s₁.setTop (mkF m 27 #[.val (.int p1)] [(.int (95 : Int32)), (.int p1)])) _
            refine XS.icmpYes X0.here hx rfl (pc0 := 27) (pc' := 34) rfl (hb hby d1_27) rfl (feq cc3).2 (by decide) (by decide) ?_
            show Steps p.tables e below (s₁.setTop (mkF m 34 #[.val (.int p1)] [])) _
            refine XS.iconst X0.here hx rfl (hb hby d1_34) ?_
            rw [show r = (0 : Int32) from er.trans (by rw [own_start, if_neg cc0, if_pos cc1, if_pos cc2, if_neg cc3])] at hr
            show Steps p.tables e below (s₁.setTop (mkF m 35 #[.val (.int p1)] [(.int (0 : Int32))])) _
            exact retN X0 hx (t := .boolean) Bd.returns (by simp) (hb hby d1_35) hr
        · show Steps p.tables e below (s₁.setTop (mkF m 15 #[.val (.int p1)] [(.int (65 : Int32)), (.int p1)])) _
          refine XS.icmpNo X0.here hx rfl (hb hby d1_15) rfl (flt cc2).1 ?_
          show Steps p.tables e below (s₁.setTop (mkF m 18 #[.val (.int p1)] [])) _
          refine XS.iloadN X0.here hx rfl (hb hby d1_18) rfl ?_
          show Steps p.tables e below (s₁.setTop (mkF m 19 #[.val (.int p1)] [(.int p1)])) _
          refine XS.bipush X0.here hx rfl (hb hby d1_19) ?_
          by_cases cc3 : (90 : Int32) < p1
          · show Steps p.tables e below (s₁.setTop (mkF m 21 #[.val (.int p1)] [(.int (90 : Int32)), (.int p1)])) _
            refine XS.icmpNo X0.here hx rfl (hb hby d1_21) rfl (tlt cc3).2.2.2 ?_
            show Steps p.tables e below (s₁.setTop (mkF m 24 #[.val (.int p1)] [])) _
            refine XS.iloadN X0.here hx rfl (hb hby d1_24) rfl ?_
            show Steps p.tables e below (s₁.setTop (mkF m 25 #[.val (.int p1)] [(.int p1)])) _
            refine XS.bipush X0.here hx rfl (hb hby d1_25) ?_
            by_cases cc4 : p1 = (95 : Int32)
            · show Steps p.tables e below (s₁.setTop (mkF m 27 #[.val (.int p1)] [(.int (95 : Int32)), (.int p1)])) _
              refine XS.icmpNo X0.here hx rfl (hb hby d1_27) rfl (teq cc4).2 ?_
              show Steps p.tables e below (s₁.setTop (mkF m 30 #[.val (.int p1)] [])) _
              refine XS.iconst X0.here hx rfl (hb hby d1_30) ?_
              show Steps p.tables e below (s₁.setTop (mkF m 31 #[.val (.int p1)] [(.int (1 : Int32))])) _
              refine XS.goto X0.here hx rfl (pc0 := 31) (pc' := 35) rfl (hb hby d1_31) (by decide) (by decide) ?_
              rw [show r = (1 : Int32) from er.trans (by rw [own_start, if_neg cc0, if_pos cc1, if_neg cc2, if_pos cc3, if_pos cc4])] at hr
              show Steps p.tables e below (s₁.setTop (mkF m 35 #[.val (.int p1)] [(.int (1 : Int32))])) _
              exact retN X0 hx (t := .boolean) Bd.returns (by simp) (hb hby d1_35) hr
            · show Steps p.tables e below (s₁.setTop (mkF m 27 #[.val (.int p1)] [(.int (95 : Int32)), (.int p1)])) _
              refine XS.icmpYes X0.here hx rfl (pc0 := 27) (pc' := 34) rfl (hb hby d1_27) rfl (feq cc4).2 (by decide) (by decide) ?_
              show Steps p.tables e below (s₁.setTop (mkF m 34 #[.val (.int p1)] [])) _
              refine XS.iconst X0.here hx rfl (hb hby d1_34) ?_
              rw [show r = (0 : Int32) from er.trans (by rw [own_start, if_neg cc0, if_pos cc1, if_neg cc2, if_pos cc3, if_neg cc4])] at hr
              show Steps p.tables e below (s₁.setTop (mkF m 35 #[.val (.int p1)] [(.int (0 : Int32))])) _
              exact retN X0 hx (t := .boolean) Bd.returns (by simp) (hb hby d1_35) hr
          · show Steps p.tables e below (s₁.setTop (mkF m 21 #[.val (.int p1)] [(.int (90 : Int32)), (.int p1)])) _
            refine XS.icmpYes X0.here hx rfl (pc0 := 21) (pc' := 30) rfl (hb hby d1_21) rfl (flt cc3).2.2.2 (by decide) (by decide) ?_
            show Steps p.tables e below (s₁.setTop (mkF m 30 #[.val (.int p1)] [])) _
            refine XS.iconst X0.here hx rfl (hb hby d1_30) ?_
            show Steps p.tables e below (s₁.setTop (mkF m 31 #[.val (.int p1)] [(.int (1 : Int32))])) _
            refine XS.goto X0.here hx rfl (pc0 := 31) (pc' := 35) rfl (hb hby d1_31) (by decide) (by decide) ?_
            rw [show r = (1 : Int32) from er.trans (by rw [own_start, if_neg cc0, if_pos cc1, if_neg cc2, if_neg cc3])] at hr
            show Steps p.tables e below (s₁.setTop (mkF m 35 #[.val (.int p1)] [(.int (1 : Int32))])) _
            exact retN X0 hx (t := .boolean) Bd.returns (by simp) (hb hby d1_35) hr
      · show Steps p.tables e below (s₁.setTop (mkF m 9 #[.val (.int p1)] [(.int (122 : Int32)), (.int p1)])) _
        refine XS.icmpYes X0.here hx rfl (pc0 := 9) (pc' := 30) rfl (hb hby d1_9) rfl (flt cc1).2.2.2 (by decide) (by decide) ?_
        show Steps p.tables e below (s₁.setTop (mkF m 30 #[.val (.int p1)] [])) _
        refine XS.iconst X0.here hx rfl (hb hby d1_30) ?_
        show Steps p.tables e below (s₁.setTop (mkF m 31 #[.val (.int p1)] [(.int (1 : Int32))])) _
        refine XS.goto X0.here hx rfl (pc0 := 31) (pc' := 35) rfl (hb hby d1_31) (by decide) (by decide) ?_
        rw [show r = (1 : Int32) from er.trans (by rw [own_start, if_neg cc0, if_neg cc1])] at hr
        show Steps p.tables e below (s₁.setTop (mkF m 35 #[.val (.int p1)] [(.int (1 : Int32))])) _
        exact retN X0 hx (t := .boolean) Bd.returns (by simp) (hb hby d1_35) hr
  · show Q1 Z p1 h0 n0 _ s₁.heap _
    exact ⟨by rw [er], N0, e0⟩
theorem d2_0 : decode method_2_code 0 = .ok (.iload_n 0, 1) := by decide +kernel
theorem d2_1 : decode method_2_code 1 = .ok (.bipush 32, 2) := by decide +kernel
theorem d2_3 : decode method_2_code 3 = .ok (.ior, 1) := by decide +kernel
theorem d2_4 : decode method_2_code 4 = .ok (.istore_n 1, 1) := by decide +kernel
theorem d2_5 : decode method_2_code 5 = .ok (.iload_n 1, 1) := by decide +kernel
theorem d2_6 : decode method_2_code 6 = .ok (.bipush 97, 2) := by decide +kernel
theorem d2_8 : decode method_2_code 8 = .ok (.if_icmp .lt 13, 3) := by decide +kernel
theorem d2_11 : decode method_2_code 11 = .ok (.iload_n 1, 1) := by decide +kernel
theorem d2_12 : decode method_2_code 12 = .ok (.bipush 122, 2) := by decide +kernel
theorem d2_14 : decode method_2_code 14 = .ok (.if_icmp .gt 7, 3) := by decide +kernel
theorem d2_17 : decode method_2_code 17 = .ok (.iconst 1, 1) := by decide +kernel
theorem d2_18 : decode method_2_code 18 = .ok (.goto 4, 3) := by decide +kernel
theorem d2_21 : decode method_2_code 21 = .ok (.iconst 0, 1) := by decide +kernel
theorem d2_22 : decode method_2_code 22 = .ok (.istore_n 2, 1) := by decide +kernel
theorem d2_23 : decode method_2_code 23 = .ok (.iload_n 0, 1) := by decide +kernel
theorem d2_24 : decode method_2_code 24 = .ok (.bipush 95, 2) := by decide +kernel
theorem d2_26 : decode method_2_code 26 = .ok (.if_icmp .ne 7, 3) := by decide +kernel
theorem d2_29 : decode method_2_code 29 = .ok (.iconst 1, 1) := by decide +kernel
theorem d2_30 : decode method_2_code 30 = .ok (.goto 4, 3) := by decide +kernel
theorem d2_33 : decode method_2_code 33 = .ok (.iconst 0, 1) := by decide +kernel
theorem d2_34 : decode method_2_code 34 = .ok (.istore_n 3, 1) := by decide +kernel
theorem d2_35 : decode method_2_code 35 = .ok (.iload_n 2, 1) := by decide +kernel
theorem d2_36 : decode method_2_code 36 = .ok (.ifCond .ne 7, 3) := by decide +kernel
theorem d2_39 : decode method_2_code 39 = .ok (.iload_n 3, 1) := by decide +kernel
theorem d2_40 : decode method_2_code 40 = .ok (.ifCond .eq 7, 3) := by decide +kernel
theorem d2_43 : decode method_2_code 43 = .ok (.iconst 1, 1) := by decide +kernel
theorem d2_44 : decode method_2_code 44 = .ok (.goto 4, 3) := by decide +kernel
theorem d2_47 : decode method_2_code 47 = .ok (.iconst 0, 1) := by decide +kernel
theorem d2_48 : decode method_2_code 48 = .ok (.ireturn, 1) := by decide +kernel
theorem pn_2 : plainName "com/example/ferrule_vm/ferrulevm/asm/LexerIsNameStartPinLaw" = true := by first | (simp [plainName, overriddenIn]; done) | decide +kernel
theorem pd_2 : parseMethodDescriptor "(C)Z" = some ⟨[.char], some .boolean⟩ := by decide +kernel
theorem ef_2 (m : MethodId) (x0 : Int32) : entryFrame m #[(.int x0)] 4 = mkF m 0 #[.val (.int x0), .unset, .unset, .unset] [] := by first | (simp [entryFrame, mkF, argsToLocals, Value.category]; done) | rfl
def own_ref (p1 : Int32) : Int32 := (if (p1 ||| (32 : Int32)) < (97 : Int32) then (if p1 = (95 : Int32) then (1 : Int32) else (0 : Int32)) else (if (122 : Int32) < (p1 ||| (32 : Int32)) then (if p1 = (95 : Int32) then (1 : Int32) else (0 : Int32)) else (if p1 = (95 : Int32) then (1 : Int32) else (1 : Int32))))
def Q2 (Z : State) (p1 : Int32) (h0 : Heap) (n0 : Nat) (v : Option Value) (h : Heap) (L : List Loc) : Prop := v = some (.int (own_ref p1)) ∧ Fr n0 L ∧ h = h0
set_option maxRecDepth 65536 in
set_option maxHeartbeats 40000000 in
theorem rm2 (l : Launch) (Z : State) (a0 : Array Value) (hw : ∀ d ∈ tables_1, d.before a0 Z = true) (ws : List Jvm.Cond) (p1 : Int32) (h0 : Heap) (n0 : Nat) (Z0 : n0 ≤ h0.size) :
    MetFree l (⟨"com/example/ferrule_vm/ferrulevm/asm/LexerIsNameStartPinLaw", "reference", "(C)Z"⟩ : MethodName) (head1 (Jvm.Cond.code (⟨"com/example/ferrule_vm/ferrulevm/asm/LexerIsNameStartPinLaw", "reference", "(C)Z"⟩ : MethodName) method_2_code 4 (some .boolean) :: ws) ({ frames := 0, cells := 0, slots := 0, locals := 0 } : Room)) (fun a U => a = #[(.int p1)] ∧ Z.Warmed39 U.vm ∧ U.heap = h0) (fun _ _ _ _ _ => True) (fun _ U o U' => ∃ v L, o = .returned v ∧ Q2 Z p1 h0 n0 v U'.heap L ∧ FrameEnd U o U' L ({ frames := 0, cells := 0, slots := 0, locals := 0 } : Room).cells ({ frames := 0, cells := 0, slots := 0, locals := 0 } : Room).slots) := by
  refine MetFree.of_bodySF (plainFor_of_name pn_2) hisR ?_
  intro p e s m args below meth c s₁ Bd hml0 hP hK
  obtain ⟨rfl, hZ, hh⟩ := hP
  have hx := Bd.exec
  have hby := Bd.bytes
  have hml : c.maxLocals = 4 := hml0
  have hown : s.vm.findClass "com/example/ferrule_vm/ferrulevm/asm/LexerIsNameStartPinLaw" = some m.cls := findClass_of_methodNamed Bd.named
  have hnm := (name_of_methodNamed Bd.named Bd.method).1
  have X0 : Stand p l e ({ frames := 0, cells := 0, slots := 0, locals := 0 } : Room) s m #[(.int p1)] below meth c s₁ [] 0 0 := Stand.of_body Bd
  have e0 : s₁.heap = h0 := by rw [← hh, Bd.state]; rfl
  have N0 := Fr.nil n0
  have pre0 : ∀ t, Steps p.tables e below (s₁.setTop (mkF m 0 #[.val (.int p1), .unset, .unset, .unset] [])) t → Steps p.tables e below (s₁.setTop (entryFrame m #[(.int p1)] 4)) t := fun t k => castTop (ef_2 m p1) k
  obtain ⟨r, er⟩ : ∃ r : Int32, r = own_ref p1 := ⟨_, rfl⟩
  obtain ⟨fs, hr, hrun, hended, hW, hsame⟩ := X0.leave (v := some (.int r)) (fun h => by rw [Bd.returns] at h; cases h)
  refine ⟨_, _, pre0 _ ?_, hrun, hended, _, _, rfl, ?_, ⟨_, rfl⟩, hW, hsame.mono (by decide) (by decide)⟩
  ·
    show Steps p.tables e below (s₁.setTop (mkF m 0 #[.val (.int p1), .unset, .unset, .unset] [])) _
    refine XS.iloadN X0.here hx rfl (hb hby d2_0) rfl ?_
    show Steps p.tables e below (s₁.setTop (mkF m 1 #[.val (.int p1), .unset, .unset, .unset] [(.int p1)])) _
    refine XS.bipush X0.here hx rfl (hb hby d2_1) ?_
    show Steps p.tables e below (s₁.setTop (mkF m 3 #[.val (.int p1), .unset, .unset, .unset] [(.int (32 : Int32)), (.int p1)])) _
    refine XS.ior X0.here hx rfl (hb hby d2_3) rfl ?_
    show Steps p.tables e below (s₁.setTop (mkF m 4 #[.val (.int p1), .unset, .unset, .unset] [(.int (p1 ||| (32 : Int32)))])) _
    refine XS.istoreN X0.here hx rfl (hb hby d2_4) rfl (l' := #[.val (.int p1), .val (.int (p1 ||| (32 : Int32))), .unset, .unset]) rfl ?_
    show Steps p.tables e below (s₁.setTop (mkF m 5 #[.val (.int p1), .val (.int (p1 ||| (32 : Int32))), .unset, .unset] [])) _
    refine XS.iloadN X0.here hx rfl (hb hby d2_5) rfl ?_
    show Steps p.tables e below (s₁.setTop (mkF m 6 #[.val (.int p1), .val (.int (p1 ||| (32 : Int32))), .unset, .unset] [(.int (p1 ||| (32 : Int32)))])) _
    refine XS.bipush X0.here hx rfl (hb hby d2_6) ?_
    by_cases cc0 : (p1 ||| (32 : Int32)) < (97 : Int32)
    · show Steps p.tables e below (s₁.setTop (mkF m 8 #[.val (.int p1), .val (.int (p1 ||| (32 : Int32))), .unset, .unset] [(.int (97 : Int32)), (.int (p1 ||| (32 : Int32)))])) _
      refine XS.icmpYes X0.here hx rfl (pc0 := 8) (pc' := 21) rfl (hb hby d2_8) rfl (tlt cc0).1 (by decide) (by decide) ?_
      show Steps p.tables e below (s₁.setTop (mkF m 21 #[.val (.int p1), .val (.int (p1 ||| (32 : Int32))), .unset, .unset] [])) _
      refine XS.iconst X0.here hx rfl (hb hby d2_21) ?_
      show Steps p.tables e below (s₁.setTop (mkF m 22 #[.val (.int p1), .val (.int (p1 ||| (32 : Int32))), .unset, .unset] [(.int (0 : Int32))])) _
      refine XS.istoreN X0.here hx rfl (hb hby d2_22) rfl (l' := #[.val (.int p1), .val (.int (p1 ||| (32 : Int32))), .val (.int (0 : Int32)), .unset]) rfl ?_
      show Steps p.tables e below (s₁.setTop (mkF m 23 #[.val (.int p1), .val (.int (p1 ||| (32 : Int32))), .val (.int (0 : Int32)), .unset] [])) _
      refine XS.iloadN X0.here hx rfl (hb hby d2_23) rfl ?_
      show Steps p.tables e below (s₁.setTop (mkF m 24 #[.val (.int p1), .val (.int (p1 ||| (32 : Int32))), .val (.int (0 : Int32)), .unset] [(.int p1)])) _
      refine XS.bipush X0.here hx rfl (hb hby d2_24) ?_
      by_cases cc1 : p1 = (95 : Int32)
      · show Steps p.tables e below (s₁.setTop (mkF m 26 #[.val (.int p1), .val (.int (p1 ||| (32 : Int32))), .val (.int (0 : Int32)), .unset] [(.int (95 : Int32)), (.int p1)])) _
        refine XS.icmpNo X0.here hx rfl (hb hby d2_26) rfl (teq cc1).2 ?_
        show Steps p.tables e below (s₁.setTop (mkF m 29 #[.val (.int p1), .val (.int (p1 ||| (32 : Int32))), .val (.int (0 : Int32)), .unset] [])) _
        refine XS.iconst X0.here hx rfl (hb hby d2_29) ?_
        show Steps p.tables e below (s₁.setTop (mkF m 30 #[.val (.int p1), .val (.int (p1 ||| (32 : Int32))), .val (.int (0 : Int32)), .unset] [(.int (1 : Int32))])) _
        refine XS.goto X0.here hx rfl (pc0 := 30) (pc' := 34) rfl (hb hby d2_30) (by decide) (by decide) ?_
        show Steps p.tables e below (s₁.setTop (mkF m 34 #[.val (.int p1), .val (.int (p1 ||| (32 : Int32))), .val (.int (0 : Int32)), .unset] [(.int (1 : Int32))])) _
        refine XS.istoreN X0.here hx rfl (hb hby d2_34) rfl (l' := #[.val (.int p1), .val (.int (p1 ||| (32 : Int32))), .val (.int (0 : Int32)), .val (.int (1 : Int32))]) rfl ?_
        show Steps p.tables e below (s₁.setTop (mkF m 35 #[.val (.int p1), .val (.int (p1 ||| (32 : Int32))), .val (.int (0 : Int32)), .val (.int (1 : Int32))] [])) _
        refine XS.iloadN X0.here hx rfl (hb hby d2_35) rfl ?_
        show Steps p.tables e below (s₁.setTop (mkF m 36 #[.val (.int p1), .val (.int (p1 ||| (32 : Int32))), .val (.int (0 : Int32)), .val (.int (1 : Int32))] [(.int (0 : Int32))])) _
        refine XS.ifNo X0.here hx rfl (hb hby d2_36) rfl ((if0 _ _).trans (teq (by decide : (0 : Int32) = (0 : Int32))).2) ?_
        show Steps p.tables e below (s₁.setTop (mkF m 39 #[.val (.int p1), .val (.int (p1 ||| (32 : Int32))), .val (.int (0 : Int32)), .val (.int (1 : Int32))] [])) _
        refine XS.iloadN X0.here hx rfl (hb hby d2_39) rfl ?_
        show Steps p.tables e below (s₁.setTop (mkF m 40 #[.val (.int p1), .val (.int (p1 ||| (32 : Int32))), .val (.int (0 : Int32)), .val (.int (1 : Int32))] [(.int (1 : Int32))])) _
        refine XS.ifNo X0.here hx rfl (hb hby d2_40) rfl ((if0 _ _).trans (feq (by decide : ¬ ((1 : Int32) = (0 : Int32)))).1) ?_
        show Steps p.tables e below (s₁.setTop (mkF m 43 #[.val (.int p1), .val (.int (p1 ||| (32 : Int32))), .val (.int (0 : Int32)), .val (.int (1 : Int32))] [])) _
        refine XS.iconst X0.here hx rfl (hb hby d2_43) ?_
        show Steps p.tables e below (s₁.setTop (mkF m 44 #[.val (.int p1), .val (.int (p1 ||| (32 : Int32))), .val (.int (0 : Int32)), .val (.int (1 : Int32))] [(.int (1 : Int32))])) _
        refine XS.goto X0.here hx rfl (pc0 := 44) (pc' := 48) rfl (hb hby d2_44) (by decide) (by decide) ?_
        rw [show r = (1 : Int32) from er.trans (by rw [own_ref, if_pos cc0, if_pos cc1])] at hr
        show Steps p.tables e below (s₁.setTop (mkF m 48 #[.val (.int p1), .val (.int (p1 ||| (32 : Int32))), .val (.int (0 : Int32)), .val (.int (1 : Int32))] [(.int (1 : Int32))])) _
        exact retN X0 hx (t := .boolean) Bd.returns (by simp) (hb hby d2_48) hr
      · show Steps p.tables e below (s₁.setTop (mkF m 26 #[.val (.int p1), .val (.int (p1 ||| (32 : Int32))), .val (.int (0 : Int32)), .unset] [(.int (95 : Int32)), (.int p1)])) _
        refine XS.icmpYes X0.here hx rfl (pc0 := 26) (pc' := 33) rfl (hb hby d2_26) rfl (feq cc1).2 (by decide) (by decide) ?_
        show Steps p.tables e below (s₁.setTop (mkF m 33 #[.val (.int p1), .val (.int (p1 ||| (32 : Int32))), .val (.int (0 : Int32)), .unset] [])) _
        refine XS.iconst X0.here hx rfl (hb hby d2_33) ?_
        show Steps p.tables e below (s₁.setTop (mkF m 34 #[.val (.int p1), .val (.int (p1 ||| (32 : Int32))), .val (.int (0 : Int32)), .unset] [(.int (0 : Int32))])) _
        refine XS.istoreN X0.here hx rfl (hb hby d2_34) rfl (l' := #[.val (.int p1), .val (.int (p1 ||| (32 : Int32))), .val (.int (0 : Int32)), .val (.int (0 : Int32))]) rfl ?_
        show Steps p.tables e below (s₁.setTop (mkF m 35 #[.val (.int p1), .val (.int (p1 ||| (32 : Int32))), .val (.int (0 : Int32)), .val (.int (0 : Int32))] [])) _
        refine XS.iloadN X0.here hx rfl (hb hby d2_35) rfl ?_
        show Steps p.tables e below (s₁.setTop (mkF m 36 #[.val (.int p1), .val (.int (p1 ||| (32 : Int32))), .val (.int (0 : Int32)), .val (.int (0 : Int32))] [(.int (0 : Int32))])) _
        refine XS.ifNo X0.here hx rfl (hb hby d2_36) rfl ((if0 _ _).trans (teq (by decide : (0 : Int32) = (0 : Int32))).2) ?_
        show Steps p.tables e below (s₁.setTop (mkF m 39 #[.val (.int p1), .val (.int (p1 ||| (32 : Int32))), .val (.int (0 : Int32)), .val (.int (0 : Int32))] [])) _
        refine XS.iloadN X0.here hx rfl (hb hby d2_39) rfl ?_
        show Steps p.tables e below (s₁.setTop (mkF m 40 #[.val (.int p1), .val (.int (p1 ||| (32 : Int32))), .val (.int (0 : Int32)), .val (.int (0 : Int32))] [(.int (0 : Int32))])) _
        refine XS.ifYes X0.here hx rfl (pc0 := 40) (pc' := 47) rfl (hb hby d2_40) rfl ((if0 _ _).trans (teq (by decide : (0 : Int32) = (0 : Int32))).1) (by decide) (by decide) ?_
        show Steps p.tables e below (s₁.setTop (mkF m 47 #[.val (.int p1), .val (.int (p1 ||| (32 : Int32))), .val (.int (0 : Int32)), .val (.int (0 : Int32))] [])) _
        refine XS.iconst X0.here hx rfl (hb hby d2_47) ?_
        rw [show r = (0 : Int32) from er.trans (by rw [own_ref, if_pos cc0, if_neg cc1])] at hr
        show Steps p.tables e below (s₁.setTop (mkF m 48 #[.val (.int p1), .val (.int (p1 ||| (32 : Int32))), .val (.int (0 : Int32)), .val (.int (0 : Int32))] [(.int (0 : Int32))])) _
        exact retN X0 hx (t := .boolean) Bd.returns (by simp) (hb hby d2_48) hr
    · show Steps p.tables e below (s₁.setTop (mkF m 8 #[.val (.int p1), .val (.int (p1 ||| (32 : Int32))), .unset, .unset] [(.int (97 : Int32)), (.int (p1 ||| (32 : Int32)))])) _
      refine XS.icmpNo X0.here hx rfl (hb hby d2_8) rfl (flt cc0).1 ?_
      show Steps p.tables e below (s₁.setTop (mkF m 11 #[.val (.int p1), .val (.int (p1 ||| (32 : Int32))), .unset, .unset] [])) _
      refine XS.iloadN X0.here hx rfl (hb hby d2_11) rfl ?_
      show Steps p.tables e below (s₁.setTop (mkF m 12 #[.val (.int p1), .val (.int (p1 ||| (32 : Int32))), .unset, .unset] [(.int (p1 ||| (32 : Int32)))])) _
      refine XS.bipush X0.here hx rfl (hb hby d2_12) ?_
      by_cases cc1 : (122 : Int32) < (p1 ||| (32 : Int32))
      · show Steps p.tables e below (s₁.setTop (mkF m 14 #[.val (.int p1), .val (.int (p1 ||| (32 : Int32))), .unset, .unset] [(.int (122 : Int32)), (.int (p1 ||| (32 : Int32)))])) _
        refine XS.icmpYes X0.here hx rfl (pc0 := 14) (pc' := 21) rfl (hb hby d2_14) rfl (tlt cc1).2.2.1 (by decide) (by decide) ?_
        show Steps p.tables e below (s₁.setTop (mkF m 21 #[.val (.int p1), .val (.int (p1 ||| (32 : Int32))), .unset, .unset] [])) _
        refine XS.iconst X0.here hx rfl (hb hby d2_21) ?_
        show Steps p.tables e below (s₁.setTop (mkF m 22 #[.val (.int p1), .val (.int (p1 ||| (32 : Int32))), .unset, .unset] [(.int (0 : Int32))])) _
        refine XS.istoreN X0.here hx rfl (hb hby d2_22) rfl (l' := #[.val (.int p1), .val (.int (p1 ||| (32 : Int32))), .val (.int (0 : Int32)), .unset]) rfl ?_
        show Steps p.tables e below (s₁.setTop (mkF m 23 #[.val (.int p1), .val (.int (p1 ||| (32 : Int32))), .val (.int (0 : Int32)), .unset] [])) _
        refine XS.iloadN X0.here hx rfl (hb hby d2_23) rfl ?_
        show Steps p.tables e below (s₁.setTop (mkF m 24 #[.val (.int p1), .val (.int (p1 ||| (32 : Int32))), .val (.int (0 : Int32)), .unset] [(.int p1)])) _
        refine XS.bipush X0.here hx rfl (hb hby d2_24) ?_
        by_cases cc2 : p1 = (95 : Int32)
        · show Steps p.tables e below (s₁.setTop (mkF m 26 #[.val (.int p1), .val (.int (p1 ||| (32 : Int32))), .val (.int (0 : Int32)), .unset] [(.int (95 : Int32)), (.int p1)])) _
          refine XS.icmpNo X0.here hx rfl (hb hby d2_26) rfl (teq cc2).2 ?_
          show Steps p.tables e below (s₁.setTop (mkF m 29 #[.val (.int p1), .val (.int (p1 ||| (32 : Int32))), .val (.int (0 : Int32)), .unset] [])) _
          refine XS.iconst X0.here hx rfl (hb hby d2_29) ?_
          show Steps p.tables e below (s₁.setTop (mkF m 30 #[.val (.int p1), .val (.int (p1 ||| (32 : Int32))), .val (.int (0 : Int32)), .unset] [(.int (1 : Int32))])) _
          refine XS.goto X0.here hx rfl (pc0 := 30) (pc' := 34) rfl (hb hby d2_30) (by decide) (by decide) ?_
          show Steps p.tables e below (s₁.setTop (mkF m 34 #[.val (.int p1), .val (.int (p1 ||| (32 : Int32))), .val (.int (0 : Int32)), .unset] [(.int (1 : Int32))])) _
          refine XS.istoreN X0.here hx rfl (hb hby d2_34) rfl (l' := #[.val (.int p1), .val (.int (p1 ||| (32 : Int32))), .val (.int (0 : Int32)), .val (.int (1 : Int32))]) rfl ?_
          show Steps p.tables e below (s₁.setTop (mkF m 35 #[.val (.int p1), .val (.int (p1 ||| (32 : Int32))), .val (.int (0 : Int32)), .val (.int (1 : Int32))] [])) _
          refine XS.iloadN X0.here hx rfl (hb hby d2_35) rfl ?_
          show Steps p.tables e below (s₁.setTop (mkF m 36 #[.val (.int p1), .val (.int (p1 ||| (32 : Int32))), .val (.int (0 : Int32)), .val (.int (1 : Int32))] [(.int (0 : Int32))])) _
          refine XS.ifNo X0.here hx rfl (hb hby d2_36) rfl ((if0 _ _).trans (teq (by decide : (0 : Int32) = (0 : Int32))).2) ?_
          show Steps p.tables e below (s₁.setTop (mkF m 39 #[.val (.int p1), .val (.int (p1 ||| (32 : Int32))), .val (.int (0 : Int32)), .val (.int (1 : Int32))] [])) _
          refine XS.iloadN X0.here hx rfl (hb hby d2_39) rfl ?_
          show Steps p.tables e below (s₁.setTop (mkF m 40 #[.val (.int p1), .val (.int (p1 ||| (32 : Int32))), .val (.int (0 : Int32)), .val (.int (1 : Int32))] [(.int (1 : Int32))])) _
          refine XS.ifNo X0.here hx rfl (hb hby d2_40) rfl ((if0 _ _).trans (feq (by decide : ¬ ((1 : Int32) = (0 : Int32)))).1) ?_
          show Steps p.tables e below (s₁.setTop (mkF m 43 #[.val (.int p1), .val (.int (p1 ||| (32 : Int32))), .val (.int (0 : Int32)), .val (.int (1 : Int32))] [])) _
          refine XS.iconst X0.here hx rfl (hb hby d2_43) ?_
          show Steps p.tables e below (s₁.setTop (mkF m 44 #[.val (.int p1), .val (.int (p1 ||| (32 : Int32))), .val (.int (0 : Int32)), .val (.int (1 : Int32))] [(.int (1 : Int32))])) _
          refine XS.goto X0.here hx rfl (pc0 := 44) (pc' := 48) rfl (hb hby d2_44) (by decide) (by decide) ?_
          rw [show r = (1 : Int32) from er.trans (by rw [own_ref, if_neg cc0, if_pos cc1, if_pos cc2])] at hr
          show Steps p.tables e below (s₁.setTop (mkF m 48 #[.val (.int p1), .val (.int (p1 ||| (32 : Int32))), .val (.int (0 : Int32)), .val (.int (1 : Int32))] [(.int (1 : Int32))])) _
          exact retN X0 hx (t := .boolean) Bd.returns (by simp) (hb hby d2_48) hr
        · show Steps p.tables e below (s₁.setTop (mkF m 26 #[.val (.int p1), .val (.int (p1 ||| (32 : Int32))), .val (.int (0 : Int32)), .unset] [(.int (95 : Int32)), (.int p1)])) _
          refine XS.icmpYes X0.here hx rfl (pc0 := 26) (pc' := 33) rfl (hb hby d2_26) rfl (feq cc2).2 (by decide) (by decide) ?_
          show Steps p.tables e below (s₁.setTop (mkF m 33 #[.val (.int p1), .val (.int (p1 ||| (32 : Int32))), .val (.int (0 : Int32)), .unset] [])) _
          refine XS.iconst X0.here hx rfl (hb hby d2_33) ?_
          show Steps p.tables e below (s₁.setTop (mkF m 34 #[.val (.int p1), .val (.int (p1 ||| (32 : Int32))), .val (.int (0 : Int32)), .unset] [(.int (0 : Int32))])) _
          refine XS.istoreN X0.here hx rfl (hb hby d2_34) rfl (l' := #[.val (.int p1), .val (.int (p1 ||| (32 : Int32))), .val (.int (0 : Int32)), .val (.int (0 : Int32))]) rfl ?_
          show Steps p.tables e below (s₁.setTop (mkF m 35 #[.val (.int p1), .val (.int (p1 ||| (32 : Int32))), .val (.int (0 : Int32)), .val (.int (0 : Int32))] [])) _
          refine XS.iloadN X0.here hx rfl (hb hby d2_35) rfl ?_
          show Steps p.tables e below (s₁.setTop (mkF m 36 #[.val (.int p1), .val (.int (p1 ||| (32 : Int32))), .val (.int (0 : Int32)), .val (.int (0 : Int32))] [(.int (0 : Int32))])) _
          refine XS.ifNo X0.here hx rfl (hb hby d2_36) rfl ((if0 _ _).trans (teq (by decide : (0 : Int32) = (0 : Int32))).2) ?_
          show Steps p.tables e below (s₁.setTop (mkF m 39 #[.val (.int p1), .val (.int (p1 ||| (32 : Int32))), .val (.int (0 : Int32)), .val (.int (0 : Int32))] [])) _
          refine XS.iloadN X0.here hx rfl (hb hby d2_39) rfl ?_
          show Steps p.tables e below (s₁.setTop (mkF m 40 #[.val (.int p1), .val (.int (p1 ||| (32 : Int32))), .val (.int (0 : Int32)), .val (.int (0 : Int32))] [(.int (0 : Int32))])) _
          refine XS.ifYes X0.here hx rfl (pc0 := 40) (pc' := 47) rfl (hb hby d2_40) rfl ((if0 _ _).trans (teq (by decide : (0 : Int32) = (0 : Int32))).1) (by decide) (by decide) ?_
          show Steps p.tables e below (s₁.setTop (mkF m 47 #[.val (.int p1), .val (.int (p1 ||| (32 : Int32))), .val (.int (0 : Int32)), .val (.int (0 : Int32))] [])) _
          refine XS.iconst X0.here hx rfl (hb hby d2_47) ?_
          rw [show r = (0 : Int32) from er.trans (by rw [own_ref, if_neg cc0, if_pos cc1, if_neg cc2])] at hr
          show Steps p.tables e below (s₁.setTop (mkF m 48 #[.val (.int p1), .val (.int (p1 ||| (32 : Int32))), .val (.int (0 : Int32)), .val (.int (0 : Int32))] [(.int (0 : Int32))])) _
          exact retN X0 hx (t := .boolean) Bd.returns (by simp) (hb hby d2_48) hr
      · show Steps p.tables e below (s₁.setTop (mkF m 14 #[.val (.int p1), .val (.int (p1 ||| (32 : Int32))), .unset, .unset] [(.int (122 : Int32)), (.int (p1 ||| (32 : Int32)))])) _
        refine XS.icmpNo X0.here hx rfl (hb hby d2_14) rfl (flt cc1).2.2.1 ?_
        show Steps p.tables e below (s₁.setTop (mkF m 17 #[.val (.int p1), .val (.int (p1 ||| (32 : Int32))), .unset, .unset] [])) _
        refine XS.iconst X0.here hx rfl (hb hby d2_17) ?_
        show Steps p.tables e below (s₁.setTop (mkF m 18 #[.val (.int p1), .val (.int (p1 ||| (32 : Int32))), .unset, .unset] [(.int (1 : Int32))])) _
        refine XS.goto X0.here hx rfl (pc0 := 18) (pc' := 22) rfl (hb hby d2_18) (by decide) (by decide) ?_
        show Steps p.tables e below (s₁.setTop (mkF m 22 #[.val (.int p1), .val (.int (p1 ||| (32 : Int32))), .unset, .unset] [(.int (1 : Int32))])) _
        refine XS.istoreN X0.here hx rfl (hb hby d2_22) rfl (l' := #[.val (.int p1), .val (.int (p1 ||| (32 : Int32))), .val (.int (1 : Int32)), .unset]) rfl ?_
        show Steps p.tables e below (s₁.setTop (mkF m 23 #[.val (.int p1), .val (.int (p1 ||| (32 : Int32))), .val (.int (1 : Int32)), .unset] [])) _
        refine XS.iloadN X0.here hx rfl (hb hby d2_23) rfl ?_
        show Steps p.tables e below (s₁.setTop (mkF m 24 #[.val (.int p1), .val (.int (p1 ||| (32 : Int32))), .val (.int (1 : Int32)), .unset] [(.int p1)])) _
        refine XS.bipush X0.here hx rfl (hb hby d2_24) ?_
        by_cases cc2 : p1 = (95 : Int32)
        · show Steps p.tables e below (s₁.setTop (mkF m 26 #[.val (.int p1), .val (.int (p1 ||| (32 : Int32))), .val (.int (1 : Int32)), .unset] [(.int (95 : Int32)), (.int p1)])) _
          refine XS.icmpNo X0.here hx rfl (hb hby d2_26) rfl (teq cc2).2 ?_
          show Steps p.tables e below (s₁.setTop (mkF m 29 #[.val (.int p1), .val (.int (p1 ||| (32 : Int32))), .val (.int (1 : Int32)), .unset] [])) _
          refine XS.iconst X0.here hx rfl (hb hby d2_29) ?_
          show Steps p.tables e below (s₁.setTop (mkF m 30 #[.val (.int p1), .val (.int (p1 ||| (32 : Int32))), .val (.int (1 : Int32)), .unset] [(.int (1 : Int32))])) _
          refine XS.goto X0.here hx rfl (pc0 := 30) (pc' := 34) rfl (hb hby d2_30) (by decide) (by decide) ?_
          show Steps p.tables e below (s₁.setTop (mkF m 34 #[.val (.int p1), .val (.int (p1 ||| (32 : Int32))), .val (.int (1 : Int32)), .unset] [(.int (1 : Int32))])) _
          refine XS.istoreN X0.here hx rfl (hb hby d2_34) rfl (l' := #[.val (.int p1), .val (.int (p1 ||| (32 : Int32))), .val (.int (1 : Int32)), .val (.int (1 : Int32))]) rfl ?_
          show Steps p.tables e below (s₁.setTop (mkF m 35 #[.val (.int p1), .val (.int (p1 ||| (32 : Int32))), .val (.int (1 : Int32)), .val (.int (1 : Int32))] [])) _
          refine XS.iloadN X0.here hx rfl (hb hby d2_35) rfl ?_
          show Steps p.tables e below (s₁.setTop (mkF m 36 #[.val (.int p1), .val (.int (p1 ||| (32 : Int32))), .val (.int (1 : Int32)), .val (.int (1 : Int32))] [(.int (1 : Int32))])) _
          refine XS.ifYes X0.here hx rfl (pc0 := 36) (pc' := 43) rfl (hb hby d2_36) rfl ((if0 _ _).trans (feq (by decide : ¬ ((1 : Int32) = (0 : Int32)))).2) (by decide) (by decide) ?_
          show Steps p.tables e below (s₁.setTop (mkF m 43 #[.val (.int p1), .val (.int (p1 ||| (32 : Int32))), .val (.int (1 : Int32)), .val (.int (1 : Int32))] [])) _
          refine XS.iconst X0.here hx rfl (hb hby d2_43) ?_
          show Steps p.tables e below (s₁.setTop (mkF m 44 #[.val (.int p1), .val (.int (p1 ||| (32 : Int32))), .val (.int (1 : Int32)), .val (.int (1 : Int32))] [(.int (1 : Int32))])) _
          refine XS.goto X0.here hx rfl (pc0 := 44) (pc' := 48) rfl (hb hby d2_44) (by decide) (by decide) ?_
          rw [show r = (1 : Int32) from er.trans (by rw [own_ref, if_neg cc0, if_neg cc1, if_pos cc2])] at hr
          show Steps p.tables e below (s₁.setTop (mkF m 48 #[.val (.int p1), .val (.int (p1 ||| (32 : Int32))), .val (.int (1 : Int32)), .val (.int (1 : Int32))] [(.int (1 : Int32))])) _
          exact retN X0 hx (t := .boolean) Bd.returns (by simp) (hb hby d2_48) hr
        · show Steps p.tables e below (s₁.setTop (mkF m 26 #[.val (.int p1), .val (.int (p1 ||| (32 : Int32))), .val (.int (1 : Int32)), .unset] [(.int (95 : Int32)), (.int p1)])) _
          refine XS.icmpYes X0.here hx rfl (pc0 := 26) (pc' := 33) rfl (hb hby d2_26) rfl (feq cc2).2 (by decide) (by decide) ?_
          show Steps p.tables e below (s₁.setTop (mkF m 33 #[.val (.int p1), .val (.int (p1 ||| (32 : Int32))), .val (.int (1 : Int32)), .unset] [])) _
          refine XS.iconst X0.here hx rfl (hb hby d2_33) ?_
          show Steps p.tables e below (s₁.setTop (mkF m 34 #[.val (.int p1), .val (.int (p1 ||| (32 : Int32))), .val (.int (1 : Int32)), .unset] [(.int (0 : Int32))])) _
          refine XS.istoreN X0.here hx rfl (hb hby d2_34) rfl (l' := #[.val (.int p1), .val (.int (p1 ||| (32 : Int32))), .val (.int (1 : Int32)), .val (.int (0 : Int32))]) rfl ?_
          show Steps p.tables e below (s₁.setTop (mkF m 35 #[.val (.int p1), .val (.int (p1 ||| (32 : Int32))), .val (.int (1 : Int32)), .val (.int (0 : Int32))] [])) _
          refine XS.iloadN X0.here hx rfl (hb hby d2_35) rfl ?_
          show Steps p.tables e below (s₁.setTop (mkF m 36 #[.val (.int p1), .val (.int (p1 ||| (32 : Int32))), .val (.int (1 : Int32)), .val (.int (0 : Int32))] [(.int (1 : Int32))])) _
          refine XS.ifYes X0.here hx rfl (pc0 := 36) (pc' := 43) rfl (hb hby d2_36) rfl ((if0 _ _).trans (feq (by decide : ¬ ((1 : Int32) = (0 : Int32)))).2) (by decide) (by decide) ?_
          show Steps p.tables e below (s₁.setTop (mkF m 43 #[.val (.int p1), .val (.int (p1 ||| (32 : Int32))), .val (.int (1 : Int32)), .val (.int (0 : Int32))] [])) _
          refine XS.iconst X0.here hx rfl (hb hby d2_43) ?_
          show Steps p.tables e below (s₁.setTop (mkF m 44 #[.val (.int p1), .val (.int (p1 ||| (32 : Int32))), .val (.int (1 : Int32)), .val (.int (0 : Int32))] [(.int (1 : Int32))])) _
          refine XS.goto X0.here hx rfl (pc0 := 44) (pc' := 48) rfl (hb hby d2_44) (by decide) (by decide) ?_
          rw [show r = (1 : Int32) from er.trans (by rw [own_ref, if_neg cc0, if_neg cc1, if_neg cc2])] at hr
          show Steps p.tables e below (s₁.setTop (mkF m 48 #[.val (.int p1), .val (.int (p1 ||| (32 : Int32))), .val (.int (1 : Int32)), .val (.int (0 : Int32))] [(.int (1 : Int32))])) _
          exact retN X0 hx (t := .boolean) Bd.returns (by simp) (hb hby d2_48) hr
  · show Q2 Z p1 h0 n0 _ s₁.heap _
    exact ⟨by rw [er], N0, e0⟩
theorem own_nat : ∀ n < 128, (n ||| 32 < 128) ∧ ((97 ≤ n ||| 32 ∧ n ||| 32 ≤ 122) ↔ ((97 ≤ n ∧ n ≤ 122) ∨ (65 ≤ n ∧ n ≤ 90))) := by decide +kernel
theorem own_or (c : Int32) : (97 ≤ (c ||| (32 : Int32)).toInt ∧ (c ||| (32 : Int32)).toInt ≤ 122) ↔ ((97 ≤ c.toInt ∧ c.toInt ≤ 122) ∨ (65 ≤ c.toInt ∧ c.toInt ≤ 90)) := by
  have e1 : c.toInt = c.toBitVec.toInt := rfl
  have e2 : (c ||| (32 : Int32)).toInt = (c.toBitVec ||| 32#32).toInt := rfl
  have e3 : (c.toBitVec ||| 32#32).toNat = c.toBitVec.toNat ||| 32 := by rw [BitVec.toNat_or]; rfl
  have l1 := c.toBitVec.isLt
  have l2 := (c.toBitVec ||| 32#32).isLt
  have l3 : c.toBitVec.toNat ≤ c.toBitVec.toNat ||| 32 := Nat.left_le_or
  rw [e1, e2, BitVec.toInt_eq_toNat_cond, BitVec.toInt_eq_toNat_cond, e3]
  rw [e3] at l2
  have k := own_nat c.toBitVec.toNat
  generalize c.toBitVec.toNat = n at *
  generalize n ||| 32 = q at *
  by_cases hn : n < 128
  · have k2 := k hn
    rw [if_pos (by omega), if_pos (by omega)]
    omega
  · constructor
    · intro h; split at h <;> omega
    · intro h; split at h <;> omega
theorem own_law (c : Int32) : own_start c = own_ref c := by
  have k := own_or c
  have a1 : (97 : Int32).toInt = 97 := rfl
  have a2 : (122 : Int32).toInt = 122 := rfl
  have a3 : (65 : Int32).toInt = 65 := rfl
  have a4 : (90 : Int32).toInt = 90 := rfl
  have a5 : (95 : Int32).toInt = 95 := rfl
  unfold own_start own_ref
  simp only [Int32.lt_iff_toInt_lt, a1, a2, a3, a4]
  by_cases h95 : c = 95
  · subst h95
    rw [a5] at k ⊢
    generalize ((95 : Int32) ||| (32 : Int32)).toInt = q at *
    repeat' split
    all_goals first | rfl | (exfalso; omega)
  · simp only [h95, if_false]
    generalize (c ||| (32 : Int32)).toInt = q at *
    repeat' split
    all_goals first | rfl | (exfalso; omega)
theorem pn_0 : plainName "com/example/ferrule_vm/ferrulevm/asm/LexerIsNameStartPinLaw" = true := by first | (simp [plainName, overriddenIn]; done) | decide +kernel
theorem ef_0 (m : MethodId) (x0 : Int32) : entryFrame m #[(.int x0)] maxLocals = mkF m 0 #[.val (.int x0), .unset] [] := by first | (simp [entryFrame, mkF, argsToLocals, Value.category, maxLocals]; done) | rfl
def Q0 (Z : State) (p1 : Int32) (h0 : Heap) (n0 : Nat) (v : Option Value) (h : Heap) (L : List Loc) : Prop := v = some (.int 1) ∧ Fr n0 L
set_option maxRecDepth 65536 in
set_option maxHeartbeats 40000000 in
theorem rm0 (l : Launch) (Z : State) (a0 : Array Value) (hw : ∀ d ∈ tables_1, d.before a0 Z = true) (ws : List Jvm.Cond) (p1 : Int32) (h0 : Heap) (n0 : Nat) (Z0 : n0 ≤ h0.size) :
    MetFree l x (head1 (Jvm.Cond.code x code maxLocals ret :: ws) room_1) (fun a U => a = #[(.int p1)] ∧ Z.Warmed39 U.vm ∧ U.heap = h0) (fun _ _ _ _ _ => True) (fun _ U o U' => ∃ v L, o = .returned v ∧ Q0 Z p1 h0 n0 v U'.heap L ∧ FrameEnd U o U' L room_1.cells room_1.slots) := by
  refine MetFree.of_bodySF (plainFor_of_name pn_0) hisR ?_
  intro p e s m args below meth c s₁ Bd hml0 hP hK
  obtain ⟨rfl, hZ, hh⟩ := hP
  have hx := Bd.exec
  have hby := Bd.bytes
  have hml : c.maxLocals = 2 := hml0
  have hown : s.vm.findClass "com/example/ferrule_vm/ferrulevm/asm/LexerIsNameStartPinLaw" = some m.cls := findClass_of_methodNamed Bd.named
  have hnm := (name_of_methodNamed Bd.named Bd.method).1
  have X0 : Stand p l e room_1 s m #[(.int p1)] below meth c s₁ [] 0 0 := Stand.of_body Bd
  have e0 : s₁.heap = h0 := by rw [← hh, Bd.state]; rfl
  have N0 := Fr.nil n0
  have pre0 : ∀ t, Steps p.tables e below (s₁.setTop (mkF m 0 #[.val (.int p1), .unset] [])) t → Steps p.tables e below (s₁.setTop (entryFrame m #[(.int p1)] maxLocals)) t := fun t k => castTop (ef_0 m p1) k
  obtain ⟨ch, ech⟩ : ∃ z : Int32, z = ((p1 &&& (65535 : Int32)).toUInt32.toUInt16.toUInt32.toInt32) := ⟨_, rfl⟩
  obtain ⟨_, _, ⟨T3, L3, k3, n3⟩, -, X3, ⟨Lc3, hQ3, l3, y3, z3⟩, st3⟩ := Jvm.LawKit.callS X0 hx (y := (⟨"com/example/ferrule_vm/ferrulevm/asm/Lexer", "isNameStart", "(C)Z"⟩ : MethodName)) hown (mvT hZ (hw _ (List.mem_of_getElem? (i := 1) rfl))) (mvT hZ (hw _ (List.mem_of_getElem? (i := 2) rfl))) (mvT hZ (hw _ (List.mem_of_getElem? (i := 3) rfl))) (mvT hZ (hw _ (List.mem_of_getElem? (i := 4) rfl))) (by decide) (backOf (W := 0) (rm1 l Z a0 hw [] ch h0 n0 Z0) hZ (hw _ (List.mem_of_getElem? (i := 4) rfl)) (hw _ (List.mem_of_getElem? (i := 3) rfl)) (by decide) (by decide)) (g := (mkF m 7 #[.val (.int p1), .val (.int ch)] [(.int ch)])) rfl (by rw [hml]; rfl) (argsL := [(.int ch)]) (rest := []) (lenOf pd_1 rfl) rfl (by show 2 * 0 + _ ≤ _; exact Nat.le_of_eq rfl) (hb hby at_7) (fun _ _ => ⟨rfl, e0, (by decide : 0 + 0 ≤ _), (by decide : 0 + 0 ≤ _)⟩)
  dsimp only [Pt.U, Pt.locs, Pt.cells, Pt.slots] at X3 l3 y3 z3 st3 hQ3
  subst l3 y3 z3
  obtain ⟨rfl, N3q, e3⟩ := hQ3
  obtain ⟨_, _, ⟨T4, L4, k4, n4⟩, -, X4, ⟨Lc4, hQ4, l4, y4, z4⟩, st4⟩ := Jvm.LawKit.callS X3 hx (y := (⟨"com/example/ferrule_vm/ferrulevm/asm/LexerIsNameStartPinLaw", "reference", "(C)Z"⟩ : MethodName)) hown (mvT hZ (hw _ (List.mem_of_getElem? (i := 5) rfl))) (mvT hZ (hw _ (List.mem_of_getElem? (i := 6) rfl))) (mvT hZ (hw _ (List.mem_of_getElem? (i := 7) rfl))) (mvT hZ (hw _ (List.mem_of_getElem? (i := 8) rfl))) (by decide) (backOf (W := 1) (rm2 l Z a0 hw [] ch h0 n0 Z0) hZ (hw _ (List.mem_of_getElem? (i := 8) rfl)) (hw _ (List.mem_of_getElem? (i := 7) rfl)) (by decide) (by decide)) (g := (mkF m 11 #[.val (.int p1), .val (.int ch)] [(.int ch), (.int (own_start ch))])) rfl (by rw [hml]; rfl) (argsL := [(.int ch)]) (rest := [(.int (own_start ch))]) (lenOf pd_2 rfl) rfl (by show 2 * 0 + _ ≤ _; exact Nat.le_of_eq rfl) (hb hby at_11) (fun _ _ => ⟨rfl, e3, (by decide : 0 + 0 ≤ _), (by decide : 0 + 0 ≤ _)⟩)
  dsimp only [Pt.U, Pt.locs, Pt.cells, Pt.slots] at X4 l4 y4 z4 st4 hQ4
  subst l4 y4 z4
  obtain ⟨rfl, N4q, e4⟩ := hQ4
  have N3 := Fr.app N0 N3q
  have N4 := Fr.app N3 N4q
  obtain ⟨fs, hr, hrun, hended, hW, hsame⟩ := X4.leave (v := some (.int (1 : Int32))) (fun h => by rw [Bd.returns] at h; cases h)
  refine ⟨_, _, pre0 _ ?_, hrun, hended, _, _, rfl, ?_, ⟨_, rfl⟩, hW, hsame.mono (by decide) (by decide)⟩
  ·
    show Steps p.tables e below (s₁.setTop (mkF m 0 #[.val (.int p1), .unset] [])) _
    refine XS.iloadN X0.here hx rfl (hb hby at_0) rfl ?_
    show Steps p.tables e below (s₁.setTop (mkF m 1 #[.val (.int p1), .unset] [(.int p1)])) _
    refine X0.ldcInt hx hown (mvT hZ (hw _ (List.mem_of_getElem? (i := 0) rfl))) (g := (mkF m 1 #[.val (.int p1), .unset] [(.int p1)])) rfl (hb hby at_1) _ ?_
    show Steps p.tables e below (s₁.setTop (mkF m 3 #[.val (.int p1), .unset] [(.int (65535 : Int32)), (.int p1)])) _
    refine XS.iand X0.here hx rfl (hb hby at_3) rfl ?_
    show Steps p.tables e below (s₁.setTop (mkF m 4 #[.val (.int p1), .unset] [(.int (p1 &&& (65535 : Int32)))])) _
    refine XS.i2c X0.here hx rfl (hb hby at_4) rfl ?_
    show Steps p.tables e below (s₁.setTop (mkF m 5 #[.val (.int p1), .unset] [(.int ((p1 &&& (65535 : Int32)).toUInt32.toUInt16.toUInt32.toInt32))])) _
    refine XS.istoreN X0.here hx rfl (hb hby at_5) rfl (l' := #[.val (.int p1), .val (.int ch)]) (by rw [ech]; rfl) ?_
    show Steps p.tables e below (s₁.setTop (mkF m 6 #[.val (.int p1), .val (.int ch)] [])) _
    refine XS.iloadN X0.here hx rfl (hb hby at_6) rfl ?_
    show Steps p.tables e below (s₁.setTop (mkF m 7 #[.val (.int p1), .val (.int ch)] [(.int ch)])) _
    refine st3 _ ?_
    show Steps p.tables e below (T3.setTop (mkF m 10 #[.val (.int p1), .val (.int ch)] [(.int (own_start ch))])) _
    refine XS.iloadN X3.here hx rfl (hb hby at_10) rfl ?_
    show Steps p.tables e below (T3.setTop (mkF m 11 #[.val (.int p1), .val (.int ch)] [(.int ch), (.int (own_start ch))])) _
    refine st4 _ ?_
    show Steps p.tables e below (T4.setTop (mkF m 14 #[.val (.int p1), .val (.int ch)] [(.int (own_ref ch)), (.int (own_start ch))])) _
    refine XS.icmpNo X4.here hx rfl (hb hby at_14) rfl (teq (own_law ch)).2 ?_
    show Steps p.tables e below (T4.setTop (mkF m 17 #[.val (.int p1), .val (.int ch)] [])) _
    refine XS.iconst X4.here hx rfl (hb hby at_17) ?_
    show Steps p.tables e below (T4.setTop (mkF m 18 #[.val (.int p1), .val (.int ch)] [(.int (1 : Int32))])) _
    refine XS.goto X4.here hx rfl (pc0 := 18) (pc' := 22) rfl (hb hby at_18) (by decide) (by decide) ?_
    show Steps p.tables e below (T4.setTop (mkF m 22 #[.val (.int p1), .val (.int ch)] [(.int (1 : Int32))])) _
    exact retN X4 hx (t := .boolean) Bd.returns (by simp) (hb hby at_22) hr
  · show Q0 Z p1 h0 n0 _ T4.heap _
    exact ⟨rfl, N4⟩
set_option maxRecDepth 65536 in
set_option maxHeartbeats 40000000 in
theorem comes_1 {Post : Tables → Env → Array Value → State → Outcome → State → Prop} (hpost : ∀ tb e args s v u, (limb_1_1.after args s (.returned v) u = true ∧ limb_1_2.after args s (.returned v) u = true ∧ True) → FrameEnd s (.returned v) u (Jvm.fieldLocs frame_1_writes args s ++ Jvm.arrayLocs frame_1_arrays args s ++ Jvm.staticLocs frame_1_statics s) 0 0 → Post tb e args s (.returned v) u) :
    ArmFor flags0 classFile x code maxLocals ret World_1 tables_1 room_1 Calls_1 rest_1 Pre_1 Post := by
  intro l hfl _ _ p e ha hc hk s m args below hf hA hF happ hP
  obtain ⟨hcalls, hrest, hpre⟩ := hP
  obtain ⟨-, -, -, hnamed, -, -, -, hat⟩ := (Spec.applies_iff hf).mp happ
  obtain ⟨hg, hn⟩ := and_e (Cond.before_iff.mp (show (Jvm.Cond.and given_1 narrow_1).before args s = true from hpre))
  obtain ⟨gc, gr0⟩ := and_e hg
  have ga0 := gr0
  obtain ⟨w0, rfl⟩ : ∃ w0 : Value, args = #[w0] := by
    have hs : args.size = 1 := by simpa [Cond.value, given_1] using gc
    obtain ⟨L⟩ := args
    match L, hs with
    | [w0], _ => exact ⟨w0, rfl⟩
  have hw := fun d (hd : d ∈ tables_1) => atoms_spec (ws := Jvm.Cond.code x code maxLocals ret :: tables_1) hat d (List.mem_cons_of_mem _ hd)
  obtain ⟨i0, ei0⟩ := is_v ga0
  obtain rfl : w0 = (.int i0) := Option.some.inj ei0
  obtain ⟨n, o, h1, h2, h3, _, L, rfl, ⟨rfl, N⟩, hq⟩ := rm0 l s _ hw tables_1 i0 s.heap s.heap.size (Nat.le_refl _) p e ha hc hk s m _ below hf ((Spec.applies_iff_loose hf).mp happ).1 ⟨rfl, State.Warmed39.refl s, rfl⟩ trivial
  refine ⟨n, _, h1, h2, h3, hpost _ _ _ _ _ _ ⟨Cond.after_iff.mpr rfl, Cond.after_iff.mpr (eq_i res_at (Term.int_eval (1)) rfl), trivial⟩ ⟨hq.1, hq.2.1, (hq.2.2.sift fun y hy => Or.inr (N y hy)).mono (by decide) (by decide)⟩⟩
theorem main_1_1 : Claimed_1_1 := comes_1 fun _ _ _ _ _ _ h hF => ⟨h.1, hF⟩
theorem main_1_2 : Claimed_1_2 := comes_1 fun _ _ _ _ _ _ h hF => ⟨h.2.1, hF⟩
end Jvm.Pilot.@@N@@
namespace Jvm.Pilot.@@N@@
open Jvm Jvm.ClassFile Sem Op Lib Jvm.Free Jvm.Stand Jvm.Pilot.@@N@@.Jvm.D
/-! MADE BY PROGRAM (witnessworld.py) out of the Statement's table words and the real class files: 7 classes; the members and pool entries that the words name. The judged class is class 1, her method 2. -/
namespace start1
open Jvm.ClassFile
def u (s : String) : CpInfo := .utf8 (stringToUtf16 s)
/-- a pool by its gaps: so many unusable entries, then the entry; so many at the end -/
def gap : Nat → List CpInfo → List CpInfo
  | 0, r => r
  | n + 1, r => .unusable :: gap n r
def poolList (es : List (Nat × CpInfo)) (last : Nat) : List CpInfo := es.foldr (fun e r => gap e.1 (e.2 :: r)) (gap last [])
def pool (es : List (Nat × CpInfo)) (last : Nat) : Array CpInfo := ⟨poolList es last⟩
def fileOf (pool : Array CpInfo) (this : Nat) (attrs : Array Attribute := #[]) (ms : Array MethodInfo := #[]) (fl : Nat := 33) (sup : Nat := 0) (ifs : Array Nat := #[]) (fds : Array FieldInfo := #[]) : ClassFile where
  minorVersion := 0
  majorVersion := 65
  constantPool := pool
  accessFlags := fl
  thisClass := this
  superClass := sup
  interfaces := ifs
  fields := fds
  methods := ms
  attributes := attrs
def plain (name : String) (sup : Option ClassId) : Class where
  name := name
  kind := .ordinary
  loader := none
  accessFlags := 33
  super := sup
  interfaces := #[]
  cf := none
  fields := #[]
  methods := #[]
  instanceTypes := #[]
  staticTypes := #[]
  resolved := #[]
  callSites := []
  init := .initialized
  statics := none
  mirror := none

def pool0 : Array CpInfo := pool [(5, u "<init>"), (0, u "()V"), (1, .class_ 10), (1, u "java/lang/Object")] 113

def k0m0 : Method := { name := "<init>", desc := "()V", sig := { parameters := [], returnType := none }, accessFlags := 1, code := none }
/-- java/lang/Object -/
def k0 : Class := { plain "java/lang/Object" none with
  accessFlags := 33
  interfaces := #[]
  cf := some (fileOf pool0 8 #[] #[{ accessFlags := 1, nameIndex := 5, descriptorIndex := 6, attributes := #[] }] 33 0 #[] #[])
  fields := #[]
  methods := #[k0m0]
  instanceTypes := #[]
  staticTypes := #[]
  resolved := Array.replicate 124 none
  statics := none }

def pool1 : Array CpInfo := pool [(2, .class_ 4), (1, u "java/lang/Object"), (0, u "<init>"), (0, u "()V"), (0, .integer 65535), (0, .methodref 9 10), (0, .class_ 11), (0, .nameAndType 12 13), (0, u "com/example/ferrule_vm/ferrulevm/asm/Lexer"), (0, u "isNameStart"), (0, u "(C)Z"), (0, .methodref 15 16), (0, .class_ 17), (0, .nameAndType 18 13), (0, u "com/example/ferrule_vm/ferrulevm/asm/LexerIsNameStartPinLaw"), (0, u "reference"), (3, u "law"), (0, u "(I)Z")] 2

def k1m0 : Method := { name := "<init>", desc := "()V", sig := { parameters := [], returnType := none }, accessFlags := 2, code := none }
def k1c1 : Code := { maxStack := 2, maxLocals := 4, code := method_2_code, exceptionTable := #[], attributes := #[] }
def k1m1 : Method := { name := "reference", desc := "(C)Z", sig := { parameters := [.char], returnType := some .boolean }, accessFlags := 10, code := some k1c1 }
def k1c2 : Code := { maxStack := 2, maxLocals := 2, code := code, exceptionTable := #[], attributes := #[] }
def k1m2 : Method := { name := "law", desc := "(I)Z", sig := { parameters := [.int], returnType := some .boolean }, accessFlags := 9, code := some k1c2 }
/-- com/example/ferrule_vm/ferrulevm/asm/LexerIsNameStartPinLaw -/
def k1 : Class := { plain "com/example/ferrule_vm/ferrulevm/asm/LexerIsNameStartPinLaw" (some 0) with
  accessFlags := 49
  interfaces := #[]
  cf := some (fileOf pool1 15 #[] #[{ accessFlags := 2, nameIndex := 5, descriptorIndex := 6, attributes := #[] }, { accessFlags := 10, nameIndex := 18, descriptorIndex := 13, attributes := #[] }, { accessFlags := 9, nameIndex := 22, descriptorIndex := 23, attributes := #[] }] 49 2 #[] #[])
  fields := #[]
  methods := #[k1m0, k1m1, k1m2]
  instanceTypes := #[]
  staticTypes := #[]
  resolved := Array.replicate 26 none
  statics := none }

def pool2 : Array CpInfo := pool [(2, .class_ 4), (1, u "java/lang/Object"), (3, .class_ 10), (1, u "com/example/ferrule_vm/ferrulevm/asm/Lexer"), (0, u "line"), (0, u "Ljava/lang/String;"), (2, u "file"), (2, u "lineNumber"), (0, u "I"), (2, u "order"), (0, u "J"), (12, u "position"), (13, u "(C)Z"), (33, u "isNameStart"), (169, u "NO_ESCAPE"), (2, u "LARGEST_BYTE")] 39

def k2c0 : Code := { maxStack := 2, maxLocals := 1, code := prog_14_method_19_code, exceptionTable := #[], attributes := #[] }
def k2m0 : Method := { name := "isNameStart", desc := "(C)Z", sig := { parameters := [.char], returnType := some .boolean }, accessFlags := 8, code := some k2c0 }
/-- com/example/ferrule_vm/ferrulevm/asm/Lexer -/
def k2 : Class := { plain "com/example/ferrule_vm/ferrulevm/asm/Lexer" (some 0) with
  accessFlags := 48
  interfaces := #[]
  cf := some (fileOf pool2 8 #[] #[{ accessFlags := 8, nameIndex := 84, descriptorIndex := 50, attributes := #[] }] 48 2 #[] #[{ accessFlags := 26, nameIndex := 254, descriptorIndex := 19, attributes := #[] }, { accessFlags := 26, nameIndex := 257, descriptorIndex := 19, attributes := #[] }, { accessFlags := 18, nameIndex := 11, descriptorIndex := 12, attributes := #[] }, { accessFlags := 18, nameIndex := 15, descriptorIndex := 12, attributes := #[] }, { accessFlags := 18, nameIndex := 18, descriptorIndex := 19, attributes := #[] }, { accessFlags := 2, nameIndex := 36, descriptorIndex := 19, attributes := #[] }, { accessFlags := 2, nameIndex := 22, descriptorIndex := 23, attributes := #[] }])
  fields := #[{ name := "NO_ESCAPE", type := .int, accessFlags := 26, slot := 0, constantValue := 0 }, { name := "LARGEST_BYTE", type := .int, accessFlags := 26, slot := 1, constantValue := 0 }, { name := "line", type := (.object "java/lang/String"), accessFlags := 18, slot := 0, constantValue := 0 }, { name := "file", type := (.object "java/lang/String"), accessFlags := 18, slot := 1, constantValue := 0 }, { name := "lineNumber", type := .int, accessFlags := 18, slot := 2, constantValue := 0 }, { name := "position", type := .int, accessFlags := 2, slot := 3, constantValue := 0 }, { name := "order", type := .long, accessFlags := 2, slot := 4, constantValue := 0 }]
  methods := #[k2m0]
  instanceTypes := #[(.object "java/lang/String"), (.object "java/lang/String"), .int, .int, .long]
  staticTypes := #[.int, .int]
  resolved := Array.replicate 297 none
  statics := none }

def pool3 : Array CpInfo := pool [(1, u "java/lang/Cloneable"), (0, .class_ 1), (0, u "java/lang/Object"), (0, .class_ 3)] 3

/-- java/lang/Cloneable -/
def k3 : Class := { plain "java/lang/Cloneable" (some 0) with
  accessFlags := 1537
  interfaces := #[]
  cf := some (fileOf pool3 2 #[] #[] 1537 4 #[] #[])
  fields := #[]
  methods := #[]
  instanceTypes := #[]
  staticTypes := #[]
  resolved := Array.replicate 8 none
  statics := none }

def pool4 : Array CpInfo := pool [(1, u "java/io/Serializable"), (0, .class_ 1), (0, u "java/lang/Object"), (0, .class_ 3)] 3

/-- java/io/Serializable -/
def k4 : Class := { plain "java/io/Serializable" (some 0) with
  accessFlags := 1537
  interfaces := #[]
  cf := some (fileOf pool4 2 #[] #[] 1537 4 #[] #[])
  fields := #[]
  methods := #[]
  instanceTypes := #[]
  staticTypes := #[]
  resolved := Array.replicate 8 none
  statics := none }

/-- the primitive byte -/
def k5 : Class := { plain "byte" none with kind := .primitive 'B', accessFlags := 0x411 }
/-- [B -/
def k6 : Class := { plain "[B" (some 0) with kind := .array 5 .byte, interfaces := #[3, 4], accessFlags := 1041 }

def heap : Heap := #[]
def classes : Array Class := #[k0, k1, k2, k3, k4, k5, k6]
def interned : List (Array UInt16 × Addr) := []
def slotsUsed : Nat := 0
def theMethod : MethodId := ⟨1, 2⟩
def args0 : Array Value := #[.int 65]
def aboutOver (below : List Frame) : State where
  vm := { classes := classes, interned := interned.toArray }
  heap := heap
  slotsUsed := slotsUsed
  threads := #[{ frames := .invoking theMethod args0 :: below }]
def below0 : List Frame := [.native { method := ⟨0, 0⟩, args := #[] }]
def about1 : State := aboutOver below0
def p0 : Program := .bare "" "" ""
def e0 : Env := launch0.env 0 0 0
theorem w_frames : about1.frames = Frame.invoking theMethod args0 :: below0 := rfl
set_option maxRecDepth 65536 in
theorem w_args : argsFit about1.vm theMethod args0 = true := by decide +kernel
set_option maxRecDepth 65536 in
theorem w_heap : heapFits about1 = true := by decide +kernel
set_option maxRecDepth 65536 in
theorem w_runnable : about1.curStatus? = some .runnable := by decide +kernel
set_option maxRecDepth 65536 in
theorem w_alone : about1.alone = true := by decide +kernel
set_option maxRecDepth 65536 in
theorem w_named : about1.methodNamed? x = some theMethod := by decide +kernel
set_option maxRecDepth 65536 in
theorem w_hears : about1.hears theMethod below0 = true := by decide +kernel
set_option maxRecDepth 65536 in
theorem w_ripe : about1.ripe theMethod args0 below0 = true := by decide +kernel
theorem w_running : about1.status = .running := rfl
set_option maxRecDepth 65536 in
theorem w_room : about1.hasRoom e0.platform room_1 = true :=
  launch0.hasRoom_least _ room_1 (by decide +kernel) (by decide +kernel) (by decide +kernel) (by decide +kernel) (by decide +kernel) (by decide +kernel)
theorem allAtoms_all (ts : List Jvm.Cond) (a : Array Jvm.Value) (st : Jvm.State) : (allAtoms ts).before a st = ts.all (fun c => c.before a st) := by
  induction ts with
  | nil => rfl
  | cons c t ih =>
    show (Jvm.Cond.and c (allAtoms t)).before a st = _
    rw [Jvm.Cond.before_and, ih, List.all_cons]
def words1 : List Jvm.Cond := Jvm.Cond.code x code maxLocals ret :: tables_1
/-- a 'code' word, met by the world's own term for the bytes: nothing is compared byte by byte -/
theorem code_word {y : MethodName} {bytes : ByteArray} {mx : Nat} {rt : Option FieldType} {a : Array Value} {s : State} {m : MethodId} {meth : Method} {c : Code} (h1 : s.methodNamed? y = some m) (h2 : s.vm.method? m = some meth) (h3 : meth.code = some c) (h4 : c.code = bytes)
    (h5 : (c.maxLocals == mx && c.exceptionTable.isEmpty && decide (c.maxStack ≤ mostOperands) && decide (meth.sig.returnType = rt) && !meth.locks && decide (parseMethodDescriptor y.desc = some meth.sig)) = true) : (Jvm.Cond.code y bytes mx rt).before a s = true := by
  simp only [Bool.and_eq_true, beq_iff_eq, Bool.not_eq_true', decide_eq_true_eq] at h5
  obtain ⟨⟨⟨⟨⟨g1, g2⟩, g3⟩, g4⟩, g5⟩, g6⟩ := h5
  simp [Cond.before, Cond.holds, Cond.value, h1, h2, h3, h4, g1, g2, g3, g4, g5, g6]
def isCode : Jvm.Cond → Bool
  | .code _ _ _ _ => true
  | _ => false
theorem all_split {L : List Jvm.Cond} {P : Jvm.Cond → Bool} (h1 : L.all (fun c => isCode c || P c) = true) (h2 : ∀ c ∈ L.filter isCode, P c = true) : L.all P = true := by
  refine List.all_eq_true.mpr fun c hc => ?_
  have h := List.all_eq_true.mp h1 c hc
  rcases Bool.eq_false_or_eq_true (isCode c) with hi | hi
  · exact h2 c (List.mem_filter.mpr ⟨hc, hi⟩)
  · simpa [hi] using h
set_option maxRecDepth 65536 in
theorem w_c0 : (Jvm.Cond.code x code maxLocals ret).before args0 about1 = true := code_word (m := ⟨1, 2⟩) (meth := k1m2) (c := k1c2) (by decide +kernel) rfl rfl rfl (by decide +kernel)
set_option maxRecDepth 65536 in
theorem w_c1 : (Jvm.Cond.code ({ cls := "com/example/ferrule_vm/ferrulevm/asm/Lexer", name := "isNameStart", desc := "(C)Z" } : Jvm.MethodName) prog_14_method_19_code (1 : Nat) (Option.some Jvm.ClassFile.FieldType.boolean)).before args0 about1 = true := code_word (m := ⟨2, 0⟩) (meth := k2m0) (c := k2c0) (by decide +kernel) rfl rfl rfl (by decide +kernel)
set_option maxRecDepth 65536 in
theorem w_c2 : (Jvm.Cond.code ({ cls := "com/example/ferrule_vm/ferrulevm/asm/LexerIsNameStartPinLaw", name := "reference", desc := "(C)Z" } : Jvm.MethodName) method_2_code (4 : Nat) (Option.some Jvm.ClassFile.FieldType.boolean)).before args0 about1 = true := code_word (m := ⟨1, 1⟩) (meth := k1m1) (c := k1c1) (by decide +kernel) rfl rfl rfl (by decide +kernel)
def codes1 : List Jvm.Cond := [Jvm.Cond.code x code maxLocals ret, Jvm.Cond.code ({ cls := "com/example/ferrule_vm/ferrulevm/asm/Lexer", name := "isNameStart", desc := "(C)Z" } : Jvm.MethodName) prog_14_method_19_code (1 : Nat) (Option.some Jvm.ClassFile.FieldType.boolean), Jvm.Cond.code ({ cls := "com/example/ferrule_vm/ferrulevm/asm/LexerIsNameStartPinLaw", name := "reference", desc := "(C)Z" } : Jvm.MethodName) method_2_code (4 : Nat) (Option.some Jvm.ClassFile.FieldType.boolean)]
set_option maxRecDepth 65536 in
theorem codes_eq : words1.filter isCode = codes1 := rfl
theorem w_codes : ∀ c ∈ words1.filter isCode, c.before args0 about1 = true := by
  rw [codes_eq]
  intro c hc
  simp only [codes1, List.mem_cons, List.not_mem_nil, or_false] at hc
  rcases hc with rfl | rfl | rfl
  · exact w_c0
  · exact w_c1
  · exact w_c2
set_option maxRecDepth 65536 in
theorem w_t1 : words1.all (fun c => isCode c || c.before args0 about1) = true := by decide +kernel
theorem w_tables : (allAtoms (Jvm.Cond.code x code maxLocals ret :: tables_1)).before args0 about1 = true := by
  rw [allAtoms_all]
  show words1.all (fun c => c.before args0 about1) = true
  refine all_split ?_ w_codes
  rw [w_t1]
set_option maxRecDepth 65536 in
theorem w_case : (Jvm.Cond.and given_1 narrow_1).before args0 about1 = true := by decide +kernel
theorem w_applies : (headSpec (Jvm.Cond.code x code maxLocals ret :: tables_1) room_1).applies x e0.platform about1 = true :=
  (Spec.applies_iff w_frames).mpr ⟨w_running, w_runnable, w_alone, w_named, w_hears, w_ripe, w_room, w_tables⟩
theorem atStart : AtStart classFile x code maxLocals ret World_1 tables_1 room_1 Calls_1 rest_1 Pre_1 launch0 p0 e0 about1 theMethod args0 below0 :=
  ⟨lists_1, trivial, launch0.admits_env _ _ _, launch0.least_env, fairChoices_fair.cas, fairChoices_fair.clock, w_frames, w_args, w_heap, w_applies, trivial, trivial, w_case⟩
end start1
theorem witness_1 : WitnessClaimed_1 := ⟨start1.p0, start1.e0, start1.about1, start1.theMethod, start1.args0, start1.below0, start1.atStart⟩
end Jvm.Pilot.@@N@@
