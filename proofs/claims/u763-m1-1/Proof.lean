import JvmDerived
import JvmDerived.Pilot.@@N@@Statement
import JvmDerived.Pilot.@@N@@Code
set_option linter.unusedVariables false
set_option linter.unusedSimpArgs false
namespace Jvm.RoadKit
open Sem ClassFile Op Lib Jvm.Stand Jvm.Free Jvm.LawKit
section New
variable {p : Program} {l : Launch} {e : Env} {R : Room} {s : State} {m : MethodId} {args : Array Value} {below : List Frame} {meth : Method} {c : Code} {T : State} {locs : List Loc} {cells slots : Nat}
theorem retI (X : Stand p l e R s m args below meth c T locs cells slots) (hx : p.tables.exec = Jvm.exec) {pc : Nat} {Ls : Array Slot} {z : Int32} {rest : List Value} (hret : meth.sig.returnType = some .int) (hd : decode c.code pc = .ok (.ireturn, 1)) {fs : List Frame}
    (hl : ∀ (f : JFrame) (acts : List Action), f.method = m → f.locked = none → f.entered = [] → (doReturn e (T.setTop f) acts (some (.int z))).1 = T.setFrames fs) : Steps p.tables e below (T.setTop (mkF m pc Ls (.int z :: rest))) (T.setFrames fs) := by
  have hm' : T.vm.method? m = some meth := X.method'
  have hn : narrow .int (.int z) = .int z := rfl
  show Steps p.tables e below (T.setTop { method := m, pc := pc, locals := Ls, stack := _ :: rest, locked := none }) _
  jvm_step X.here [X.here.top, hx, hd, hm', hret, hn]
  first | (intro acts; rw [hl _ acts rfl rfl rfl]) | rw [hl _ _ rfl rfl rfl]
  exact Steps.refl _
end New
end Jvm.RoadKit
namespace Jvm.Pilot.@@N@@
open Jvm Jvm.ClassFile Sem Op Lib Jvm.Free Jvm.Stand Jvm.LawKit Jvm.RoadKit Bundle Jvm.Pilot.@@N@@.Jvm.D
def QN (r : Int32) (h0 : Heap) (n0 : Nat) (v : Option Value) (h : Heap) (L : List Loc) : Prop := v = some (.int r) ∧ Fr n0 L ∧ h = h0
theorem pn_com_example_shtmlkit_shtmlkit_DirectiveReader : plainName "com/example/shtmlkit/shtmlkit/DirectiveReader" = true := by first | (simp [plainName, overriddenIn]; done) | decide +kernel
theorem ef_1 (m : MethodId) (p1 : Int32) : entryFrame m #[(.int p1)] 1 = mkF m 0 #[.val (.int p1)] [] := by first | (simp [entryFrame, mkF, argsToLocals, Value.category]; done) | rfl
theorem d1_0 : decode prog_9_method_18_code 0 = .ok (.iload_n 0, 1) := by decide +kernel
theorem d1_1 : decode prog_9_method_18_code 1 = .ok (.bipush 32, 2) := by decide +kernel
theorem d1_3 : decode prog_9_method_18_code 3 = .ok (.if_icmp .eq 33, 3) := by decide +kernel
theorem d1_36 : decode prog_9_method_18_code 36 = .ok (.iconst 1, 1) := by decide +kernel
theorem d1_37 : decode prog_9_method_18_code 37 = .ok (.goto 4, 3) := by decide +kernel
theorem d1_41 : decode prog_9_method_18_code 41 = .ok (.ireturn, 1) := by decide +kernel
theorem d1_6 : decode prog_9_method_18_code 6 = .ok (.iload_n 0, 1) := by decide +kernel
theorem d1_7 : decode prog_9_method_18_code 7 = .ok (.bipush 9, 2) := by decide +kernel
theorem d1_9 : decode prog_9_method_18_code 9 = .ok (.if_icmp .eq 27, 3) := by decide +kernel
theorem d1_12 : decode prog_9_method_18_code 12 = .ok (.iload_n 0, 1) := by decide +kernel
theorem d1_13 : decode prog_9_method_18_code 13 = .ok (.bipush 10, 2) := by decide +kernel
theorem d1_15 : decode prog_9_method_18_code 15 = .ok (.if_icmp .eq 21, 3) := by decide +kernel
theorem d1_18 : decode prog_9_method_18_code 18 = .ok (.iload_n 0, 1) := by decide +kernel
theorem d1_19 : decode prog_9_method_18_code 19 = .ok (.bipush 11, 2) := by decide +kernel
theorem d1_21 : decode prog_9_method_18_code 21 = .ok (.if_icmp .eq 15, 3) := by decide +kernel
theorem d1_24 : decode prog_9_method_18_code 24 = .ok (.iload_n 0, 1) := by decide +kernel
theorem d1_25 : decode prog_9_method_18_code 25 = .ok (.bipush 12, 2) := by decide +kernel
theorem d1_27 : decode prog_9_method_18_code 27 = .ok (.if_icmp .eq 9, 3) := by decide +kernel
theorem d1_30 : decode prog_9_method_18_code 30 = .ok (.iload_n 0, 1) := by decide +kernel
theorem d1_31 : decode prog_9_method_18_code 31 = .ok (.bipush 13, 2) := by decide +kernel
theorem d1_33 : decode prog_9_method_18_code 33 = .ok (.if_icmp .ne 7, 3) := by decide +kernel
theorem d1_40 : decode prog_9_method_18_code 40 = .ok (.iconst 0, 1) := by decide +kernel
def own_blank (p1 : Int32) : Int32 := if p1 = (32 : Int32) then (1 : Int32) else if p1 = (9 : Int32) then (1 : Int32) else if p1 = (10 : Int32) then (1 : Int32) else if p1 = (11 : Int32) then (1 : Int32) else if p1 = (12 : Int32) then (1 : Int32) else if p1 = (13 : Int32) then (1 : Int32) else (0 : Int32)
set_option maxRecDepth 65536 in
set_option maxHeartbeats 40000000 in
theorem rm1 (l : Launch) (Z : State) (a0 : Array Value) (hw : ∀ d ∈ tables_1, d.before a0 Z = true) (ws : List Jvm.Cond) (p1 : Int32) (h0 : Heap) (n0 : Nat) (Z0 : n0 ≤ h0.size) :
    MetFree l (⟨"com/example/shtmlkit/shtmlkit/DirectiveReader", "isBlank", "(C)Z"⟩ : MethodName) (head1 (Jvm.Cond.code (⟨"com/example/shtmlkit/shtmlkit/DirectiveReader", "isBlank", "(C)Z"⟩ : MethodName) prog_9_method_18_code 1 (some .boolean) :: ws) ({ frames := 0, cells := 0, slots := 0, locals := 0 } : Room)) (fun a U => a = #[(.int p1)] ∧ Z.Warmed39 U.vm ∧ U.heap = h0) (fun _ _ _ _ _ => True) (fun _ U o U' => ∃ v L, o = .returned v ∧ QN (own_blank p1) h0 n0 v U'.heap L ∧ FrameEnd U o U' L ({ frames := 0, cells := 0, slots := 0, locals := 0 } : Room).cells ({ frames := 0, cells := 0, slots := 0, locals := 0 } : Room).slots) := by
  refine MetFree.of_bodySF (plainFor_of_name pn_com_example_shtmlkit_shtmlkit_DirectiveReader) hisR ?_
  intro p e s m args below meth c s₁ Bd hml0 hP hK
  obtain ⟨rfl, hZ, hh⟩ := hP
  have hx := Bd.exec
  have hby := Bd.bytes
  have hml : c.maxLocals = 1 := hml0
  have hown : s.vm.findClass "com/example/shtmlkit/shtmlkit/DirectiveReader" = some m.cls := findClass_of_methodNamed Bd.named
  have hnm := (name_of_methodNamed Bd.named Bd.method).1
  have X0 : Stand p l e ({ frames := 0, cells := 0, slots := 0, locals := 0 } : Room) s m #[(.int p1)] below meth c s₁ [] 0 0 := Stand.of_body Bd
  have e0 : s₁.heap = h0 := by rw [← hh, Bd.state]; rfl
  have N0 := Fr.nil n0
  have pre0 : ∀ t, Steps p.tables e below (s₁.setTop (mkF m 0 #[.val (.int p1)] [])) t → Steps p.tables e below (s₁.setTop (entryFrame m #[(.int p1)] 1)) t := fun t k => castTop (ef_1 m p1) k
  have q1 : ∀ t, Steps p.tables e below (s₁.setTop (mkF m 3 #[.val (.int p1)] [(.int (32 : Int32)), (.int p1)])) t → Steps p.tables e below (s₁.setTop (entryFrame m #[(.int p1)] 1)) t := fun t k => pre0 t (by
      show Steps p.tables e below (s₁.setTop (mkF m 0 #[.val (.int p1)] [])) _
      refine XS.iloadN X0.here hx rfl (hb hby d1_0) rfl ?_
      show Steps p.tables e below (s₁.setTop (mkF m 1 #[.val (.int p1)] [(.int p1)])) _
      refine XS.bipush X0.here hx rfl (hb hby d1_1) ?_
      show Steps p.tables e below (s₁.setTop (mkF m 3 #[.val (.int p1)] [(.int (32 : Int32)), (.int p1)])) _
      exact k)
  by_cases k2 : p1 = (32 : Int32)
  · skip
    have q3 : ∀ t, Steps p.tables e below (s₁.setTop (mkF m 41 #[.val (.int p1)] [(.int (1 : Int32))])) t → Steps p.tables e below (s₁.setTop (entryFrame m #[(.int p1)] 1)) t := fun t k => q1 t (by
        show Steps p.tables e below (s₁.setTop (mkF m 3 #[.val (.int p1)] [(.int (32 : Int32)), (.int p1)])) _
        refine XS.icmpYes X0.here hx rfl (pc0 := 3) (pc' := 36) rfl (hb hby d1_3) rfl (XT.ii_eq_t (k2 : p1 = (32 : Int32))) (by decide) (by decide) ?_
        show Steps p.tables e below (s₁.setTop (mkF m 36 #[.val (.int p1)] [])) _
        refine XS.iconst X0.here hx rfl (hb hby d1_36) ?_
        show Steps p.tables e below (s₁.setTop (mkF m 37 #[.val (.int p1)] [(.int (1 : Int32))])) _
        refine XS.goto X0.here hx rfl (pc0 := 37) (pc' := 41) rfl (hb hby d1_37) (by decide) (by decide) ?_
        show Steps p.tables e below (s₁.setTop (mkF m 41 #[.val (.int p1)] [(.int (1 : Int32))])) _
        exact k)
    obtain ⟨fs, hr, hrun, hended, hW, hsame⟩ := X0.leave (v := some (.int (1 : Int32))) (fun h => by rw [Bd.returns] at h; cases h)
    refine ⟨_, _, q3 _ ?_, hrun, hended, _, _, rfl, ?_, ⟨_, rfl⟩, hW, hsame.mono (by decide) (by decide)⟩
    · show Steps p.tables e below (s₁.setTop (mkF m 41 #[.val (.int p1)] [(.int (1 : Int32))])) _
      exact retN X0 hx (t := .boolean) Bd.returns (by simp) (hb hby d1_41) hr
    · show QN (own_blank p1) h0 n0 _ s₁.heap _
      exact ⟨by unfold own_blank; rw [if_pos k2], N0, e0⟩
  · skip
    have q4 : ∀ t, Steps p.tables e below (s₁.setTop (mkF m 9 #[.val (.int p1)] [(.int (9 : Int32)), (.int p1)])) t → Steps p.tables e below (s₁.setTop (entryFrame m #[(.int p1)] 1)) t := fun t k => q1 t (by
        show Steps p.tables e below (s₁.setTop (mkF m 3 #[.val (.int p1)] [(.int (32 : Int32)), (.int p1)])) _
        refine XS.icmpNo X0.here hx rfl (hb hby d1_3) rfl (XT.ii_eq_f (k2 : ¬ (p1 = (32 : Int32)))) ?_
        show Steps p.tables e below (s₁.setTop (mkF m 6 #[.val (.int p1)] [])) _
        refine XS.iloadN X0.here hx rfl (hb hby d1_6) rfl ?_
        show Steps p.tables e below (s₁.setTop (mkF m 7 #[.val (.int p1)] [(.int p1)])) _
        refine XS.bipush X0.here hx rfl (hb hby d1_7) ?_
        show Steps p.tables e below (s₁.setTop (mkF m 9 #[.val (.int p1)] [(.int (9 : Int32)), (.int p1)])) _
        exact k)
    by_cases k5 : p1 = (9 : Int32)
    · skip
      have q6 : ∀ t, Steps p.tables e below (s₁.setTop (mkF m 41 #[.val (.int p1)] [(.int (1 : Int32))])) t → Steps p.tables e below (s₁.setTop (entryFrame m #[(.int p1)] 1)) t := fun t k => q4 t (by
          show Steps p.tables e below (s₁.setTop (mkF m 9 #[.val (.int p1)] [(.int (9 : Int32)), (.int p1)])) _
          refine XS.icmpYes X0.here hx rfl (pc0 := 9) (pc' := 36) rfl (hb hby d1_9) rfl (XT.ii_eq_t (k5 : p1 = (9 : Int32))) (by decide) (by decide) ?_
          show Steps p.tables e below (s₁.setTop (mkF m 36 #[.val (.int p1)] [])) _
          refine XS.iconst X0.here hx rfl (hb hby d1_36) ?_
          show Steps p.tables e below (s₁.setTop (mkF m 37 #[.val (.int p1)] [(.int (1 : Int32))])) _
          refine XS.goto X0.here hx rfl (pc0 := 37) (pc' := 41) rfl (hb hby d1_37) (by decide) (by decide) ?_
          show Steps p.tables e below (s₁.setTop (mkF m 41 #[.val (.int p1)] [(.int (1 : Int32))])) _
          exact k)
      obtain ⟨fs, hr, hrun, hended, hW, hsame⟩ := X0.leave (v := some (.int (1 : Int32))) (fun h => by rw [Bd.returns] at h; cases h)
      refine ⟨_, _, q6 _ ?_, hrun, hended, _, _, rfl, ?_, ⟨_, rfl⟩, hW, hsame.mono (by decide) (by decide)⟩
      · show Steps p.tables e below (s₁.setTop (mkF m 41 #[.val (.int p1)] [(.int (1 : Int32))])) _
        exact retN X0 hx (t := .boolean) Bd.returns (by simp) (hb hby d1_41) hr
      · show QN (own_blank p1) h0 n0 _ s₁.heap _
        exact ⟨by unfold own_blank; rw [if_neg k2, if_pos k5], N0, e0⟩
    · skip
      have q7 : ∀ t, Steps p.tables e below (s₁.setTop (mkF m 15 #[.val (.int p1)] [(.int (10 : Int32)), (.int p1)])) t → Steps p.tables e below (s₁.setTop (entryFrame m #[(.int p1)] 1)) t := fun t k => q4 t (by
          show Steps p.tables e below (s₁.setTop (mkF m 9 #[.val (.int p1)] [(.int (9 : Int32)), (.int p1)])) _
          refine XS.icmpNo X0.here hx rfl (hb hby d1_9) rfl (XT.ii_eq_f (k5 : ¬ (p1 = (9 : Int32)))) ?_
          show Steps p.tables e below (s₁.setTop (mkF m 12 #[.val (.int p1)] [])) _
          refine XS.iloadN X0.here hx rfl (hb hby d1_12) rfl ?_
          show Steps p.tables e below (s₁.setTop (mkF m 13 #[.val (.int p1)] [(.int p1)])) _
          refine XS.bipush X0.here hx rfl (hb hby d1_13) ?_
          show Steps p.tables e below (s₁.setTop (mkF m 15 #[.val (.int p1)] [(.int (10 : Int32)), (.int p1)])) _
          exact k)
      by_cases k8 : p1 = (10 : Int32)
      · skip
        have q9 : ∀ t, Steps p.tables e below (s₁.setTop (mkF m 41 #[.val (.int p1)] [(.int (1 : Int32))])) t → Steps p.tables e below (s₁.setTop (entryFrame m #[(.int p1)] 1)) t := fun t k => q7 t (by
            show Steps p.tables e below (s₁.setTop (mkF m 15 #[.val (.int p1)] [(.int (10 : Int32)), (.int p1)])) _
            refine XS.icmpYes X0.here hx rfl (pc0 := 15) (pc' := 36) rfl (hb hby d1_15) rfl (XT.ii_eq_t (k8 : p1 = (10 : Int32))) (by decide) (by decide) ?_
            show Steps p.tables e below (s₁.setTop (mkF m 36 #[.val (.int p1)] [])) _
            refine XS.iconst X0.here hx rfl (hb hby d1_36) ?_
            show Steps p.tables e below (s₁.setTop (mkF m 37 #[.val (.int p1)] [(.int (1 : Int32))])) _
            refine XS.goto X0.here hx rfl (pc0 := 37) (pc' := 41) rfl (hb hby d1_37) (by decide) (by decide) ?_
            show Steps p.tables e below (s₁.setTop (mkF m 41 #[.val (.int p1)] [(.int (1 : Int32))])) _
            exact k)
        obtain ⟨fs, hr, hrun, hended, hW, hsame⟩ := X0.leave (v := some (.int (1 : Int32))) (fun h => by rw [Bd.returns] at h; cases h)
        refine ⟨_, _, q9 _ ?_, hrun, hended, _, _, rfl, ?_, ⟨_, rfl⟩, hW, hsame.mono (by decide) (by decide)⟩
        · show Steps p.tables e below (s₁.setTop (mkF m 41 #[.val (.int p1)] [(.int (1 : Int32))])) _
          exact retN X0 hx (t := .boolean) Bd.returns (by simp) (hb hby d1_41) hr
        · show QN (own_blank p1) h0 n0 _ s₁.heap _
          exact ⟨by unfold own_blank; rw [if_neg k2, if_neg k5, if_pos k8], N0, e0⟩
      · skip
        have q10 : ∀ t, Steps p.tables e below (s₁.setTop (mkF m 21 #[.val (.int p1)] [(.int (11 : Int32)), (.int p1)])) t → Steps p.tables e below (s₁.setTop (entryFrame m #[(.int p1)] 1)) t := fun t k => q7 t (by
            show Steps p.tables e below (s₁.setTop (mkF m 15 #[.val (.int p1)] [(.int (10 : Int32)), (.int p1)])) _
            refine XS.icmpNo X0.here hx rfl (hb hby d1_15) rfl (XT.ii_eq_f (k8 : ¬ (p1 = (10 : Int32)))) ?_
            show Steps p.tables e below (s₁.setTop (mkF m 18 #[.val (.int p1)] [])) _
            refine XS.iloadN X0.here hx rfl (hb hby d1_18) rfl ?_
            show Steps p.tables e below (s₁.setTop (mkF m 19 #[.val (.int p1)] [(.int p1)])) _
            refine XS.bipush X0.here hx rfl (hb hby d1_19) ?_
            show Steps p.tables e below (s₁.setTop (mkF m 21 #[.val (.int p1)] [(.int (11 : Int32)), (.int p1)])) _
            exact k)
        by_cases k11 : p1 = (11 : Int32)
        · skip
          have q12 : ∀ t, Steps p.tables e below (s₁.setTop (mkF m 41 #[.val (.int p1)] [(.int (1 : Int32))])) t → Steps p.tables e below (s₁.setTop (entryFrame m #[(.int p1)] 1)) t := fun t k => q10 t (by
              show Steps p.tables e below (s₁.setTop (mkF m 21 #[.val (.int p1)] [(.int (11 : Int32)), (.int p1)])) _
              refine XS.icmpYes X0.here hx rfl (pc0 := 21) (pc' := 36) rfl (hb hby d1_21) rfl (XT.ii_eq_t (k11 : p1 = (11 : Int32))) (by decide) (by decide) ?_
              show Steps p.tables e below (s₁.setTop (mkF m 36 #[.val (.int p1)] [])) _
              refine XS.iconst X0.here hx rfl (hb hby d1_36) ?_
              show Steps p.tables e below (s₁.setTop (mkF m 37 #[.val (.int p1)] [(.int (1 : Int32))])) _
              refine XS.goto X0.here hx rfl (pc0 := 37) (pc' := 41) rfl (hb hby d1_37) (by decide) (by decide) ?_
              show Steps p.tables e below (s₁.setTop (mkF m 41 #[.val (.int p1)] [(.int (1 : Int32))])) _
              exact k)
          obtain ⟨fs, hr, hrun, hended, hW, hsame⟩ := X0.leave (v := some (.int (1 : Int32))) (fun h => by rw [Bd.returns] at h; cases h)
          refine ⟨_, _, q12 _ ?_, hrun, hended, _, _, rfl, ?_, ⟨_, rfl⟩, hW, hsame.mono (by decide) (by decide)⟩
          · show Steps p.tables e below (s₁.setTop (mkF m 41 #[.val (.int p1)] [(.int (1 : Int32))])) _
            exact retN X0 hx (t := .boolean) Bd.returns (by simp) (hb hby d1_41) hr
          · show QN (own_blank p1) h0 n0 _ s₁.heap _
            exact ⟨by unfold own_blank; rw [if_neg k2, if_neg k5, if_neg k8, if_pos k11], N0, e0⟩
        · skip
          have q13 : ∀ t, Steps p.tables e below (s₁.setTop (mkF m 27 #[.val (.int p1)] [(.int (12 : Int32)), (.int p1)])) t → Steps p.tables e below (s₁.setTop (entryFrame m #[(.int p1)] 1)) t := fun t k => q10 t (by
              show Steps p.tables e below (s₁.setTop (mkF m 21 #[.val (.int p1)] [(.int (11 : Int32)), (.int p1)])) _
              refine XS.icmpNo X0.here hx rfl (hb hby d1_21) rfl (XT.ii_eq_f (k11 : ¬ (p1 = (11 : Int32)))) ?_
              show Steps p.tables e below (s₁.setTop (mkF m 24 #[.val (.int p1)] [])) _
              refine XS.iloadN X0.here hx rfl (hb hby d1_24) rfl ?_
              show Steps p.tables e below (s₁.setTop (mkF m 25 #[.val (.int p1)] [(.int p1)])) _
              refine XS.bipush X0.here hx rfl (hb hby d1_25) ?_
              show Steps p.tables e below (s₁.setTop (mkF m 27 #[.val (.int p1)] [(.int (12 : Int32)), (.int p1)])) _
              exact k)
          by_cases k14 : p1 = (12 : Int32)
          · skip
            have q15 : ∀ t, Steps p.tables e below (s₁.setTop (mkF m 41 #[.val (.int p1)] [(.int (1 : Int32))])) t → Steps p.tables e below (s₁.setTop (entryFrame m #[(.int p1)] 1)) t := fun t k => q13 t (by
                show Steps p.tables e below (s₁.setTop (mkF m 27 #[.val (.int p1)] [(.int (12 : Int32)), (.int p1)])) _
                refine XS.icmpYes X0.here hx rfl (pc0 := 27) (pc' := 36) rfl (hb hby d1_27) rfl (XT.ii_eq_t (k14 : p1 = (12 : Int32))) (by decide) (by decide) ?_
                show Steps p.tables e below (s₁.setTop (mkF m 36 #[.val (.int p1)] [])) _
                refine XS.iconst X0.here hx rfl (hb hby d1_36) ?_
                show Steps p.tables e below (s₁.setTop (mkF m 37 #[.val (.int p1)] [(.int (1 : Int32))])) _
                refine XS.goto X0.here hx rfl (pc0 := 37) (pc' := 41) rfl (hb hby d1_37) (by decide) (by decide) ?_
                show Steps p.tables e below (s₁.setTop (mkF m 41 #[.val (.int p1)] [(.int (1 : Int32))])) _
                exact k)
            obtain ⟨fs, hr, hrun, hended, hW, hsame⟩ := X0.leave (v := some (.int (1 : Int32))) (fun h => by rw [Bd.returns] at h; cases h)
            refine ⟨_, _, q15 _ ?_, hrun, hended, _, _, rfl, ?_, ⟨_, rfl⟩, hW, hsame.mono (by decide) (by decide)⟩
            · show Steps p.tables e below (s₁.setTop (mkF m 41 #[.val (.int p1)] [(.int (1 : Int32))])) _
              exact retN X0 hx (t := .boolean) Bd.returns (by simp) (hb hby d1_41) hr
            · show QN (own_blank p1) h0 n0 _ s₁.heap _
              exact ⟨by unfold own_blank; rw [if_neg k2, if_neg k5, if_neg k8, if_neg k11, if_pos k14], N0, e0⟩
          · skip
            have q16 : ∀ t, Steps p.tables e below (s₁.setTop (mkF m 33 #[.val (.int p1)] [(.int (13 : Int32)), (.int p1)])) t → Steps p.tables e below (s₁.setTop (entryFrame m #[(.int p1)] 1)) t := fun t k => q13 t (by
                show Steps p.tables e below (s₁.setTop (mkF m 27 #[.val (.int p1)] [(.int (12 : Int32)), (.int p1)])) _
                refine XS.icmpNo X0.here hx rfl (hb hby d1_27) rfl (XT.ii_eq_f (k14 : ¬ (p1 = (12 : Int32)))) ?_
                show Steps p.tables e below (s₁.setTop (mkF m 30 #[.val (.int p1)] [])) _
                refine XS.iloadN X0.here hx rfl (hb hby d1_30) rfl ?_
                show Steps p.tables e below (s₁.setTop (mkF m 31 #[.val (.int p1)] [(.int p1)])) _
                refine XS.bipush X0.here hx rfl (hb hby d1_31) ?_
                show Steps p.tables e below (s₁.setTop (mkF m 33 #[.val (.int p1)] [(.int (13 : Int32)), (.int p1)])) _
                exact k)
            by_cases k17 : p1 = (13 : Int32)
            · skip
              have q18 : ∀ t, Steps p.tables e below (s₁.setTop (mkF m 41 #[.val (.int p1)] [(.int (1 : Int32))])) t → Steps p.tables e below (s₁.setTop (entryFrame m #[(.int p1)] 1)) t := fun t k => q16 t (by
                  show Steps p.tables e below (s₁.setTop (mkF m 33 #[.val (.int p1)] [(.int (13 : Int32)), (.int p1)])) _
                  refine XS.icmpNo X0.here hx rfl (hb hby d1_33) rfl (XT.ii_ne_f (k17 : p1 = (13 : Int32))) ?_
                  show Steps p.tables e below (s₁.setTop (mkF m 36 #[.val (.int p1)] [])) _
                  refine XS.iconst X0.here hx rfl (hb hby d1_36) ?_
                  show Steps p.tables e below (s₁.setTop (mkF m 37 #[.val (.int p1)] [(.int (1 : Int32))])) _
                  refine XS.goto X0.here hx rfl (pc0 := 37) (pc' := 41) rfl (hb hby d1_37) (by decide) (by decide) ?_
                  show Steps p.tables e below (s₁.setTop (mkF m 41 #[.val (.int p1)] [(.int (1 : Int32))])) _
                  exact k)
              obtain ⟨fs, hr, hrun, hended, hW, hsame⟩ := X0.leave (v := some (.int (1 : Int32))) (fun h => by rw [Bd.returns] at h; cases h)
              refine ⟨_, _, q18 _ ?_, hrun, hended, _, _, rfl, ?_, ⟨_, rfl⟩, hW, hsame.mono (by decide) (by decide)⟩
              · show Steps p.tables e below (s₁.setTop (mkF m 41 #[.val (.int p1)] [(.int (1 : Int32))])) _
                exact retN X0 hx (t := .boolean) Bd.returns (by simp) (hb hby d1_41) hr
              · show QN (own_blank p1) h0 n0 _ s₁.heap _
                exact ⟨by unfold own_blank; rw [if_neg k2, if_neg k5, if_neg k8, if_neg k11, if_neg k14, if_pos k17], N0, e0⟩
            · skip
              have q19 : ∀ t, Steps p.tables e below (s₁.setTop (mkF m 41 #[.val (.int p1)] [(.int (0 : Int32))])) t → Steps p.tables e below (s₁.setTop (entryFrame m #[(.int p1)] 1)) t := fun t k => q16 t (by
                  show Steps p.tables e below (s₁.setTop (mkF m 33 #[.val (.int p1)] [(.int (13 : Int32)), (.int p1)])) _
                  refine XS.icmpYes X0.here hx rfl (pc0 := 33) (pc' := 40) rfl (hb hby d1_33) rfl (XT.ii_ne_t (k17 : ¬ (p1 = (13 : Int32)))) (by decide) (by decide) ?_
                  show Steps p.tables e below (s₁.setTop (mkF m 40 #[.val (.int p1)] [])) _
                  refine XS.iconst X0.here hx rfl (hb hby d1_40) ?_
                  show Steps p.tables e below (s₁.setTop (mkF m 41 #[.val (.int p1)] [(.int (0 : Int32))])) _
                  exact k)
              obtain ⟨fs, hr, hrun, hended, hW, hsame⟩ := X0.leave (v := some (.int (0 : Int32))) (fun h => by rw [Bd.returns] at h; cases h)
              refine ⟨_, _, q19 _ ?_, hrun, hended, _, _, rfl, ?_, ⟨_, rfl⟩, hW, hsame.mono (by decide) (by decide)⟩
              · show Steps p.tables e below (s₁.setTop (mkF m 41 #[.val (.int p1)] [(.int (0 : Int32))])) _
                exact retN X0 hx (t := .boolean) Bd.returns (by simp) (hb hby d1_41) hr
              · show QN (own_blank p1) h0 n0 _ s₁.heap _
                exact ⟨by unfold own_blank; rw [if_neg k2, if_neg k5, if_neg k8, if_neg k11, if_neg k14, if_neg k17], N0, e0⟩
theorem own_lt {x y : Int32} (h : x.toInt < y.toInt) : x < y := Int32.lt_iff_toInt_lt.mpr h
theorem own_nlt {x y : Int32} (h : ¬ x.toInt < y.toInt) : ¬ x < y := fun q => h (Int32.lt_iff_toInt_lt.mp q)
theorem own_eq {x y : Int32} (h : x.toInt = y.toInt) : x = y := Int32.toInt_inj.mp h
theorem own_ne {x y : Int32} (h : ¬ x.toInt = y.toInt) : ¬ x = y := fun q => h (Int32.toInt_inj.mpr q)
def own_exp (c : Int32) : Int32 := if c = (32 : Int32) then (1 : Int32) else if c < (9 : Int32) then (0 : Int32) else if (13 : Int32) < c then (0 : Int32) else (1 : Int32)
theorem own_bl (c : Int32) : own_blank c = own_exp c := by
  unfold own_blank own_exp
  simp only [Int32.lt_iff_toInt_lt, ← Int32.toInt_inj, show (32 : Int32).toInt = 32 from rfl, show (9 : Int32).toInt = 9 from rfl, show (10 : Int32).toInt = 10 from rfl, show (11 : Int32).toInt = 11 from rfl, show (12 : Int32).toInt = 12 from rfl, show (13 : Int32).toInt = 13 from rfl]
  generalize c.toInt = z
  by_cases h0 : z = 32
  · rw [if_pos h0, if_pos h0]
  rw [if_neg h0, if_neg h0]
  by_cases h1 : z < 9
  · rw [if_pos h1]
    repeat (rw [if_neg (by omega)])
  · rw [if_neg h1]
    by_cases h2 : 13 < z
    · rw [if_pos h2]
      repeat (rw [if_neg (by omega)])
    · rw [if_neg h2]
      have h3 : z = 9 ∨ z = 10 ∨ z = 11 ∨ z = 12 ∨ z = 13 := by omega
      rcases h3 with rfl | rfl | rfl | rfl | rfl <;> decide
def QL (n0 : Nat) (v : Option Value) (h : Heap) (L : List Loc) : Prop := v = some (.int (1 : Int32)) ∧ Fr n0 L
theorem pn_com_example_shtmlkit_shtmlkit_DirectiveReaderIsBlankPinLaw : plainName "com/example/shtmlkit/shtmlkit/DirectiveReaderIsBlankPinLaw" = true := by first | (simp [plainName, overriddenIn]; done) | decide +kernel
theorem ef_0 (m : MethodId) (p1 : Int32) : entryFrame m #[(.int p1)] maxLocals = mkF m 0 #[.val (.int p1), .unset, .unset, .unset] [] := by first | (simp [entryFrame, mkF, argsToLocals, Value.category, maxLocals]; done) | rfl
theorem pd__C_Z : parseMethodDescriptor "(C)Z" = some ⟨[.char], some .boolean⟩ := by decide +kernel
set_option maxRecDepth 65536 in
set_option maxHeartbeats 40000000 in
theorem rm0 (l : Launch) (Z : State) (a0 : Array Value) (hw : ∀ d ∈ tables_1, d.before a0 Z = true) (ws : List Jvm.Cond) (p1 : Int32) (h0 : Heap) (n0 : Nat) (Z0 : n0 ≤ h0.size) :
    MetFree l x (head1 (Jvm.Cond.code x code maxLocals ret :: ws) room_1) (fun a U => a = #[(.int p1)] ∧ Z.Warmed39 U.vm ∧ U.heap = h0) (fun _ _ _ _ _ => True) (fun _ U o U' => ∃ v L, o = .returned v ∧ QL n0 v U'.heap L ∧ FrameEnd U o U' L room_1.cells room_1.slots) := by
  refine MetFree.of_bodySF (plainFor_of_name pn_com_example_shtmlkit_shtmlkit_DirectiveReaderIsBlankPinLaw) hisR ?_
  intro p e s m args below meth c s₁ Bd hml0 hP hK
  obtain ⟨rfl, hZ, hh⟩ := hP
  have hx := Bd.exec
  have hby := Bd.bytes
  have hml : c.maxLocals = 4 := hml0
  have hown : s.vm.findClass "com/example/shtmlkit/shtmlkit/DirectiveReaderIsBlankPinLaw" = some m.cls := findClass_of_methodNamed Bd.named
  have hnm := (name_of_methodNamed Bd.named Bd.method).1
  have X0 : Stand p l e room_1 s m #[(.int p1)] below meth c s₁ [] 0 0 := Stand.of_body Bd
  have e0 : s₁.heap = h0 := by rw [← hh, Bd.state]; rfl
  have N0 := Fr.nil n0
  have pre0 : ∀ t, Steps p.tables e below (s₁.setTop (mkF m 0 #[.val (.int p1), .unset, .unset, .unset] [])) t → Steps p.tables e below (s₁.setTop (entryFrame m #[(.int p1)] maxLocals)) t := fun t k => castTop (ef_0 m p1) k
  have q20 : ∀ t, Steps p.tables e below (s₁.setTop (mkF m 8 #[.val (.int p1), .val (.int (p1.toUInt32.toUInt16.toUInt32.toInt32)), .val (.int (p1.toUInt32.toUInt16.toUInt32.toInt32)), .unset] [(.int (32 : Int32)), (.int (p1.toUInt32.toUInt16.toUInt32.toInt32))])) t → Steps p.tables e below (s₁.setTop (entryFrame m #[(.int p1)] maxLocals)) t := fun t k => pre0 t (by
      show Steps p.tables e below (s₁.setTop (mkF m 0 #[.val (.int p1), .unset, .unset, .unset] [])) _
      refine XS.iloadN X0.here hx rfl (hb hby at_0) rfl ?_
      show Steps p.tables e below (s₁.setTop (mkF m 1 #[.val (.int p1), .unset, .unset, .unset] [(.int p1)])) _
      refine XS.i2c X0.here hx rfl (hb hby at_1) rfl ?_
      show Steps p.tables e below (s₁.setTop (mkF m 2 #[.val (.int p1), .unset, .unset, .unset] [(.int (p1.toUInt32.toUInt16.toUInt32.toInt32))])) _
      refine XS.istoreN X0.here hx rfl (hb hby at_2) rfl (l' := #[.val (.int p1), .val (.int (p1.toUInt32.toUInt16.toUInt32.toInt32)), .unset, .unset]) rfl ?_
      show Steps p.tables e below (s₁.setTop (mkF m 3 #[.val (.int p1), .val (.int (p1.toUInt32.toUInt16.toUInt32.toInt32)), .unset, .unset] [])) _
      refine XS.iloadN X0.here hx rfl (hb hby at_3) rfl ?_
      show Steps p.tables e below (s₁.setTop (mkF m 4 #[.val (.int p1), .val (.int (p1.toUInt32.toUInt16.toUInt32.toInt32)), .unset, .unset] [(.int (p1.toUInt32.toUInt16.toUInt32.toInt32))])) _
      refine XS.istoreN X0.here hx rfl (hb hby at_4) rfl (l' := #[.val (.int p1), .val (.int (p1.toUInt32.toUInt16.toUInt32.toInt32)), .val (.int (p1.toUInt32.toUInt16.toUInt32.toInt32)), .unset]) rfl ?_
      show Steps p.tables e below (s₁.setTop (mkF m 5 #[.val (.int p1), .val (.int (p1.toUInt32.toUInt16.toUInt32.toInt32)), .val (.int (p1.toUInt32.toUInt16.toUInt32.toInt32)), .unset] [])) _
      refine XS.iloadN X0.here hx rfl (hb hby at_5) rfl ?_
      show Steps p.tables e below (s₁.setTop (mkF m 6 #[.val (.int p1), .val (.int (p1.toUInt32.toUInt16.toUInt32.toInt32)), .val (.int (p1.toUInt32.toUInt16.toUInt32.toInt32)), .unset] [(.int (p1.toUInt32.toUInt16.toUInt32.toInt32))])) _
      refine XS.bipush X0.here hx rfl (hb hby at_6) ?_
      show Steps p.tables e below (s₁.setTop (mkF m 8 #[.val (.int p1), .val (.int (p1.toUInt32.toUInt16.toUInt32.toInt32)), .val (.int (p1.toUInt32.toUInt16.toUInt32.toInt32)), .unset] [(.int (32 : Int32)), (.int (p1.toUInt32.toUInt16.toUInt32.toInt32))])) _
      exact k)
  by_cases k21 : (p1.toUInt32.toUInt16.toUInt32.toInt32) = (32 : Int32)
  · skip
    have q22 : ∀ t, Steps p.tables e below (s₁.setTop (mkF m 30 #[.val (.int p1), .val (.int (p1.toUInt32.toUInt16.toUInt32.toInt32)), .val (.int (p1.toUInt32.toUInt16.toUInt32.toInt32)), .val (.int (1 : Int32))] [(.int (p1.toUInt32.toUInt16.toUInt32.toInt32))])) t → Steps p.tables e below (s₁.setTop (entryFrame m #[(.int p1)] maxLocals)) t := fun t k => q20 t (by
        show Steps p.tables e below (s₁.setTop (mkF m 8 #[.val (.int p1), .val (.int (p1.toUInt32.toUInt16.toUInt32.toInt32)), .val (.int (p1.toUInt32.toUInt16.toUInt32.toInt32)), .unset] [(.int (32 : Int32)), (.int (p1.toUInt32.toUInt16.toUInt32.toInt32))])) _
        refine XS.icmpYes X0.here hx rfl (pc0 := 8) (pc' := 23) rfl (hb hby at_8) rfl (XT.ii_eq_t (k21 : (p1.toUInt32.toUInt16.toUInt32.toInt32) = (32 : Int32))) (by decide) (by decide) ?_
        show Steps p.tables e below (s₁.setTop (mkF m 23 #[.val (.int p1), .val (.int (p1.toUInt32.toUInt16.toUInt32.toInt32)), .val (.int (p1.toUInt32.toUInt16.toUInt32.toInt32)), .unset] [])) _
        refine XS.iconst X0.here hx rfl (hb hby at_23) ?_
        show Steps p.tables e below (s₁.setTop (mkF m 24 #[.val (.int p1), .val (.int (p1.toUInt32.toUInt16.toUInt32.toInt32)), .val (.int (p1.toUInt32.toUInt16.toUInt32.toInt32)), .unset] [(.int (1 : Int32))])) _
        refine XS.goto X0.here hx rfl (pc0 := 24) (pc' := 28) rfl (hb hby at_24) (by decide) (by decide) ?_
        show Steps p.tables e below (s₁.setTop (mkF m 28 #[.val (.int p1), .val (.int (p1.toUInt32.toUInt16.toUInt32.toInt32)), .val (.int (p1.toUInt32.toUInt16.toUInt32.toInt32)), .unset] [(.int (1 : Int32))])) _
        refine XS.istoreN X0.here hx rfl (hb hby at_28) rfl (l' := #[.val (.int p1), .val (.int (p1.toUInt32.toUInt16.toUInt32.toInt32)), .val (.int (p1.toUInt32.toUInt16.toUInt32.toInt32)), .val (.int (1 : Int32))]) rfl ?_
        show Steps p.tables e below (s₁.setTop (mkF m 29 #[.val (.int p1), .val (.int (p1.toUInt32.toUInt16.toUInt32.toInt32)), .val (.int (p1.toUInt32.toUInt16.toUInt32.toInt32)), .val (.int (1 : Int32))] [])) _
        refine XS.iloadN X0.here hx rfl (hb hby at_29) rfl ?_
        show Steps p.tables e below (s₁.setTop (mkF m 30 #[.val (.int p1), .val (.int (p1.toUInt32.toUInt16.toUInt32.toInt32)), .val (.int (p1.toUInt32.toUInt16.toUInt32.toInt32)), .val (.int (1 : Int32))] [(.int (p1.toUInt32.toUInt16.toUInt32.toInt32))])) _
        exact k)
    obtain ⟨_, _, ⟨T23, L23, kk23, nn23⟩, -, X23, ⟨Lc23, hQ23, l23, y23, z23⟩, st23⟩ := Jvm.LawKit.callS X0 hx (y := (⟨"com/example/shtmlkit/shtmlkit/DirectiveReader", "isBlank", "(C)Z"⟩ : MethodName)) hown (mvT hZ (hw _ (List.mem_of_getElem? (i := 0) rfl))) (mvT hZ (hw _ (List.mem_of_getElem? (i := 1) rfl))) (mvT hZ (hw _ (List.mem_of_getElem? (i := 2) rfl))) (mvT hZ (hw _ (List.mem_of_getElem? (i := 3) rfl))) (by decide) (backOf (W := 0) (rm1 l Z a0 hw [] (p1.toUInt32.toUInt16.toUInt32.toInt32) h0 n0 Z0) hZ (hw _ (List.mem_of_getElem? (i := 3) rfl)) (hw _ (List.mem_of_getElem? (i := 2) rfl)) (by decide) (by decide)) (g := (mkF m 30 #[.val (.int p1), .val (.int (p1.toUInt32.toUInt16.toUInt32.toInt32)), .val (.int (p1.toUInt32.toUInt16.toUInt32.toInt32)), .val (.int (1 : Int32))] [(.int (p1.toUInt32.toUInt16.toUInt32.toInt32))])) rfl (by rw [hml]; rfl) (argsL := [(.int (p1.toUInt32.toUInt16.toUInt32.toInt32))]) (rest := []) (lenOf pd__C_Z rfl) rfl (by show 2 * 0 + _ ≤ _; exact Nat.le_of_eq rfl) (hb hby at_30) (fun _ _ => ⟨rfl, e0, (by decide : 0 + 0 ≤ _), (by decide : 0 + 0 ≤ _)⟩)
    dsimp only [Pt.U, Pt.locs, Pt.cells, Pt.slots] at X23 l23 y23 z23 st23 hQ23
    subst l23 y23 z23
    obtain ⟨rfl, Nq23, e23⟩ := hQ23
    have N23 := Fr.app N0 Nq23
    have q24 : ∀ t, Steps p.tables e below (T23.setTop (mkF m 33 #[.val (.int p1), .val (.int (p1.toUInt32.toUInt16.toUInt32.toInt32)), .val (.int (p1.toUInt32.toUInt16.toUInt32.toInt32)), .val (.int (1 : Int32))] [(.int (own_blank (p1.toUInt32.toUInt16.toUInt32.toInt32)))])) t → Steps p.tables e below (s₁.setTop (entryFrame m #[(.int p1)] maxLocals)) t := fun t k => q22 t (st23 t k)
    have q25 : ∀ t, Steps p.tables e below (T23.setTop (mkF m 42 #[.val (.int p1), .val (.int (p1.toUInt32.toUInt16.toUInt32.toInt32)), .val (.int (p1.toUInt32.toUInt16.toUInt32.toInt32)), .val (.int (1 : Int32))] [(.int (1 : Int32))])) t → Steps p.tables e below (s₁.setTop (entryFrame m #[(.int p1)] maxLocals)) t := fun t k => q24 t (by
        show Steps p.tables e below (T23.setTop (mkF m 33 #[.val (.int p1), .val (.int (p1.toUInt32.toUInt16.toUInt32.toInt32)), .val (.int (p1.toUInt32.toUInt16.toUInt32.toInt32)), .val (.int (1 : Int32))] [(.int (own_blank (p1.toUInt32.toUInt16.toUInt32.toInt32)))])) _
        refine XS.iloadN X23.here hx rfl (hb hby at_33) rfl ?_
        show Steps p.tables e below (T23.setTop (mkF m 34 #[.val (.int p1), .val (.int (p1.toUInt32.toUInt16.toUInt32.toInt32)), .val (.int (p1.toUInt32.toUInt16.toUInt32.toInt32)), .val (.int (1 : Int32))] [(.int (1 : Int32)), (.int (own_blank (p1.toUInt32.toUInt16.toUInt32.toInt32)))])) _
        refine XS.icmpNo X23.here hx rfl (hb hby at_34) rfl (XT.ii_ne_f ((own_bl _).trans (by unfold own_exp; rw [if_pos k21]) : (own_blank (p1.toUInt32.toUInt16.toUInt32.toInt32)) = (1 : Int32))) ?_
        show Steps p.tables e below (T23.setTop (mkF m 37 #[.val (.int p1), .val (.int (p1.toUInt32.toUInt16.toUInt32.toInt32)), .val (.int (p1.toUInt32.toUInt16.toUInt32.toInt32)), .val (.int (1 : Int32))] [])) _
        refine XS.iconst X23.here hx rfl (hb hby at_37) ?_
        show Steps p.tables e below (T23.setTop (mkF m 38 #[.val (.int p1), .val (.int (p1.toUInt32.toUInt16.toUInt32.toInt32)), .val (.int (p1.toUInt32.toUInt16.toUInt32.toInt32)), .val (.int (1 : Int32))] [(.int (1 : Int32))])) _
        refine XS.goto X23.here hx rfl (pc0 := 38) (pc' := 42) rfl (hb hby at_38) (by decide) (by decide) ?_
        show Steps p.tables e below (T23.setTop (mkF m 42 #[.val (.int p1), .val (.int (p1.toUInt32.toUInt16.toUInt32.toInt32)), .val (.int (p1.toUInt32.toUInt16.toUInt32.toInt32)), .val (.int (1 : Int32))] [(.int (1 : Int32))])) _
        exact k)
    obtain ⟨fs, hr, hrun, hended, hW, hsame⟩ := X23.leave (v := some (.int (1 : Int32))) (fun h => by rw [Bd.returns] at h; cases h)
    refine ⟨_, _, q25 _ ?_, hrun, hended, _, _, rfl, ?_, ⟨_, rfl⟩, hW, hsame.mono (by decide) (by decide)⟩
    · show Steps p.tables e below (T23.setTop (mkF m 42 #[.val (.int p1), .val (.int (p1.toUInt32.toUInt16.toUInt32.toInt32)), .val (.int (p1.toUInt32.toUInt16.toUInt32.toInt32)), .val (.int (1 : Int32))] [(.int (1 : Int32))])) _
      exact retN X23 hx (t := .boolean) Bd.returns (by simp) (hb hby at_42) hr
    · show QL n0 _ T23.heap _
      exact ⟨rfl, N23⟩
  · skip
    have q26 : ∀ t, Steps p.tables e below (s₁.setTop (mkF m 14 #[.val (.int p1), .val (.int (p1.toUInt32.toUInt16.toUInt32.toInt32)), .val (.int (p1.toUInt32.toUInt16.toUInt32.toInt32)), .unset] [(.int (9 : Int32)), (.int (p1.toUInt32.toUInt16.toUInt32.toInt32))])) t → Steps p.tables e below (s₁.setTop (entryFrame m #[(.int p1)] maxLocals)) t := fun t k => q20 t (by
        show Steps p.tables e below (s₁.setTop (mkF m 8 #[.val (.int p1), .val (.int (p1.toUInt32.toUInt16.toUInt32.toInt32)), .val (.int (p1.toUInt32.toUInt16.toUInt32.toInt32)), .unset] [(.int (32 : Int32)), (.int (p1.toUInt32.toUInt16.toUInt32.toInt32))])) _
        refine XS.icmpNo X0.here hx rfl (hb hby at_8) rfl (XT.ii_eq_f (k21 : ¬ ((p1.toUInt32.toUInt16.toUInt32.toInt32) = (32 : Int32)))) ?_
        show Steps p.tables e below (s₁.setTop (mkF m 11 #[.val (.int p1), .val (.int (p1.toUInt32.toUInt16.toUInt32.toInt32)), .val (.int (p1.toUInt32.toUInt16.toUInt32.toInt32)), .unset] [])) _
        refine XS.iloadN X0.here hx rfl (hb hby at_11) rfl ?_
        show Steps p.tables e below (s₁.setTop (mkF m 12 #[.val (.int p1), .val (.int (p1.toUInt32.toUInt16.toUInt32.toInt32)), .val (.int (p1.toUInt32.toUInt16.toUInt32.toInt32)), .unset] [(.int (p1.toUInt32.toUInt16.toUInt32.toInt32))])) _
        refine XS.bipush X0.here hx rfl (hb hby at_12) ?_
        show Steps p.tables e below (s₁.setTop (mkF m 14 #[.val (.int p1), .val (.int (p1.toUInt32.toUInt16.toUInt32.toInt32)), .val (.int (p1.toUInt32.toUInt16.toUInt32.toInt32)), .unset] [(.int (9 : Int32)), (.int (p1.toUInt32.toUInt16.toUInt32.toInt32))])) _
        exact k)
    by_cases k27 : (p1.toUInt32.toUInt16.toUInt32.toInt32) < (9 : Int32)
    · skip
      have q28 : ∀ t, Steps p.tables e below (s₁.setTop (mkF m 30 #[.val (.int p1), .val (.int (p1.toUInt32.toUInt16.toUInt32.toInt32)), .val (.int (p1.toUInt32.toUInt16.toUInt32.toInt32)), .val (.int (0 : Int32))] [(.int (p1.toUInt32.toUInt16.toUInt32.toInt32))])) t → Steps p.tables e below (s₁.setTop (entryFrame m #[(.int p1)] maxLocals)) t := fun t k => q26 t (by
          show Steps p.tables e below (s₁.setTop (mkF m 14 #[.val (.int p1), .val (.int (p1.toUInt32.toUInt16.toUInt32.toInt32)), .val (.int (p1.toUInt32.toUInt16.toUInt32.toInt32)), .unset] [(.int (9 : Int32)), (.int (p1.toUInt32.toUInt16.toUInt32.toInt32))])) _
          refine XS.icmpYes X0.here hx rfl (pc0 := 14) (pc' := 27) rfl (hb hby at_14) rfl (XT.ii_lt_t (k27 : (p1.toUInt32.toUInt16.toUInt32.toInt32) < (9 : Int32))) (by decide) (by decide) ?_
          show Steps p.tables e below (s₁.setTop (mkF m 27 #[.val (.int p1), .val (.int (p1.toUInt32.toUInt16.toUInt32.toInt32)), .val (.int (p1.toUInt32.toUInt16.toUInt32.toInt32)), .unset] [])) _
          refine XS.iconst X0.here hx rfl (hb hby at_27) ?_
          show Steps p.tables e below (s₁.setTop (mkF m 28 #[.val (.int p1), .val (.int (p1.toUInt32.toUInt16.toUInt32.toInt32)), .val (.int (p1.toUInt32.toUInt16.toUInt32.toInt32)), .unset] [(.int (0 : Int32))])) _
          refine XS.istoreN X0.here hx rfl (hb hby at_28) rfl (l' := #[.val (.int p1), .val (.int (p1.toUInt32.toUInt16.toUInt32.toInt32)), .val (.int (p1.toUInt32.toUInt16.toUInt32.toInt32)), .val (.int (0 : Int32))]) rfl ?_
          show Steps p.tables e below (s₁.setTop (mkF m 29 #[.val (.int p1), .val (.int (p1.toUInt32.toUInt16.toUInt32.toInt32)), .val (.int (p1.toUInt32.toUInt16.toUInt32.toInt32)), .val (.int (0 : Int32))] [])) _
          refine XS.iloadN X0.here hx rfl (hb hby at_29) rfl ?_
          show Steps p.tables e below (s₁.setTop (mkF m 30 #[.val (.int p1), .val (.int (p1.toUInt32.toUInt16.toUInt32.toInt32)), .val (.int (p1.toUInt32.toUInt16.toUInt32.toInt32)), .val (.int (0 : Int32))] [(.int (p1.toUInt32.toUInt16.toUInt32.toInt32))])) _
          exact k)
      obtain ⟨_, _, ⟨T29, L29, kk29, nn29⟩, -, X29, ⟨Lc29, hQ29, l29, y29, z29⟩, st29⟩ := Jvm.LawKit.callS X0 hx (y := (⟨"com/example/shtmlkit/shtmlkit/DirectiveReader", "isBlank", "(C)Z"⟩ : MethodName)) hown (mvT hZ (hw _ (List.mem_of_getElem? (i := 0) rfl))) (mvT hZ (hw _ (List.mem_of_getElem? (i := 1) rfl))) (mvT hZ (hw _ (List.mem_of_getElem? (i := 2) rfl))) (mvT hZ (hw _ (List.mem_of_getElem? (i := 3) rfl))) (by decide) (backOf (W := 0) (rm1 l Z a0 hw [] (p1.toUInt32.toUInt16.toUInt32.toInt32) h0 n0 Z0) hZ (hw _ (List.mem_of_getElem? (i := 3) rfl)) (hw _ (List.mem_of_getElem? (i := 2) rfl)) (by decide) (by decide)) (g := (mkF m 30 #[.val (.int p1), .val (.int (p1.toUInt32.toUInt16.toUInt32.toInt32)), .val (.int (p1.toUInt32.toUInt16.toUInt32.toInt32)), .val (.int (0 : Int32))] [(.int (p1.toUInt32.toUInt16.toUInt32.toInt32))])) rfl (by rw [hml]; rfl) (argsL := [(.int (p1.toUInt32.toUInt16.toUInt32.toInt32))]) (rest := []) (lenOf pd__C_Z rfl) rfl (by show 2 * 0 + _ ≤ _; exact Nat.le_of_eq rfl) (hb hby at_30) (fun _ _ => ⟨rfl, e0, (by decide : 0 + 0 ≤ _), (by decide : 0 + 0 ≤ _)⟩)
      dsimp only [Pt.U, Pt.locs, Pt.cells, Pt.slots] at X29 l29 y29 z29 st29 hQ29
      subst l29 y29 z29
      obtain ⟨rfl, Nq29, e29⟩ := hQ29
      have N29 := Fr.app N0 Nq29
      have q30 : ∀ t, Steps p.tables e below (T29.setTop (mkF m 33 #[.val (.int p1), .val (.int (p1.toUInt32.toUInt16.toUInt32.toInt32)), .val (.int (p1.toUInt32.toUInt16.toUInt32.toInt32)), .val (.int (0 : Int32))] [(.int (own_blank (p1.toUInt32.toUInt16.toUInt32.toInt32)))])) t → Steps p.tables e below (s₁.setTop (entryFrame m #[(.int p1)] maxLocals)) t := fun t k => q28 t (st29 t k)
      have q31 : ∀ t, Steps p.tables e below (T29.setTop (mkF m 42 #[.val (.int p1), .val (.int (p1.toUInt32.toUInt16.toUInt32.toInt32)), .val (.int (p1.toUInt32.toUInt16.toUInt32.toInt32)), .val (.int (0 : Int32))] [(.int (1 : Int32))])) t → Steps p.tables e below (s₁.setTop (entryFrame m #[(.int p1)] maxLocals)) t := fun t k => q30 t (by
          show Steps p.tables e below (T29.setTop (mkF m 33 #[.val (.int p1), .val (.int (p1.toUInt32.toUInt16.toUInt32.toInt32)), .val (.int (p1.toUInt32.toUInt16.toUInt32.toInt32)), .val (.int (0 : Int32))] [(.int (own_blank (p1.toUInt32.toUInt16.toUInt32.toInt32)))])) _
          refine XS.iloadN X29.here hx rfl (hb hby at_33) rfl ?_
          show Steps p.tables e below (T29.setTop (mkF m 34 #[.val (.int p1), .val (.int (p1.toUInt32.toUInt16.toUInt32.toInt32)), .val (.int (p1.toUInt32.toUInt16.toUInt32.toInt32)), .val (.int (0 : Int32))] [(.int (0 : Int32)), (.int (own_blank (p1.toUInt32.toUInt16.toUInt32.toInt32)))])) _
          refine XS.icmpNo X29.here hx rfl (hb hby at_34) rfl (XT.ii_ne_f ((own_bl _).trans (by unfold own_exp; rw [if_neg k21, if_pos k27]) : (own_blank (p1.toUInt32.toUInt16.toUInt32.toInt32)) = (0 : Int32))) ?_
          show Steps p.tables e below (T29.setTop (mkF m 37 #[.val (.int p1), .val (.int (p1.toUInt32.toUInt16.toUInt32.toInt32)), .val (.int (p1.toUInt32.toUInt16.toUInt32.toInt32)), .val (.int (0 : Int32))] [])) _
          refine XS.iconst X29.here hx rfl (hb hby at_37) ?_
          show Steps p.tables e below (T29.setTop (mkF m 38 #[.val (.int p1), .val (.int (p1.toUInt32.toUInt16.toUInt32.toInt32)), .val (.int (p1.toUInt32.toUInt16.toUInt32.toInt32)), .val (.int (0 : Int32))] [(.int (1 : Int32))])) _
          refine XS.goto X29.here hx rfl (pc0 := 38) (pc' := 42) rfl (hb hby at_38) (by decide) (by decide) ?_
          show Steps p.tables e below (T29.setTop (mkF m 42 #[.val (.int p1), .val (.int (p1.toUInt32.toUInt16.toUInt32.toInt32)), .val (.int (p1.toUInt32.toUInt16.toUInt32.toInt32)), .val (.int (0 : Int32))] [(.int (1 : Int32))])) _
          exact k)
      obtain ⟨fs, hr, hrun, hended, hW, hsame⟩ := X29.leave (v := some (.int (1 : Int32))) (fun h => by rw [Bd.returns] at h; cases h)
      refine ⟨_, _, q31 _ ?_, hrun, hended, _, _, rfl, ?_, ⟨_, rfl⟩, hW, hsame.mono (by decide) (by decide)⟩
      · show Steps p.tables e below (T29.setTop (mkF m 42 #[.val (.int p1), .val (.int (p1.toUInt32.toUInt16.toUInt32.toInt32)), .val (.int (p1.toUInt32.toUInt16.toUInt32.toInt32)), .val (.int (0 : Int32))] [(.int (1 : Int32))])) _
        exact retN X29 hx (t := .boolean) Bd.returns (by simp) (hb hby at_42) hr
      · show QL n0 _ T29.heap _
        exact ⟨rfl, N29⟩
    · skip
      have q32 : ∀ t, Steps p.tables e below (s₁.setTop (mkF m 20 #[.val (.int p1), .val (.int (p1.toUInt32.toUInt16.toUInt32.toInt32)), .val (.int (p1.toUInt32.toUInt16.toUInt32.toInt32)), .unset] [(.int (13 : Int32)), (.int (p1.toUInt32.toUInt16.toUInt32.toInt32))])) t → Steps p.tables e below (s₁.setTop (entryFrame m #[(.int p1)] maxLocals)) t := fun t k => q26 t (by
          show Steps p.tables e below (s₁.setTop (mkF m 14 #[.val (.int p1), .val (.int (p1.toUInt32.toUInt16.toUInt32.toInt32)), .val (.int (p1.toUInt32.toUInt16.toUInt32.toInt32)), .unset] [(.int (9 : Int32)), (.int (p1.toUInt32.toUInt16.toUInt32.toInt32))])) _
          refine XS.icmpNo X0.here hx rfl (hb hby at_14) rfl (XT.ii_lt_f (k27 : ¬ ((p1.toUInt32.toUInt16.toUInt32.toInt32) < (9 : Int32)))) ?_
          show Steps p.tables e below (s₁.setTop (mkF m 17 #[.val (.int p1), .val (.int (p1.toUInt32.toUInt16.toUInt32.toInt32)), .val (.int (p1.toUInt32.toUInt16.toUInt32.toInt32)), .unset] [])) _
          refine XS.iloadN X0.here hx rfl (hb hby at_17) rfl ?_
          show Steps p.tables e below (s₁.setTop (mkF m 18 #[.val (.int p1), .val (.int (p1.toUInt32.toUInt16.toUInt32.toInt32)), .val (.int (p1.toUInt32.toUInt16.toUInt32.toInt32)), .unset] [(.int (p1.toUInt32.toUInt16.toUInt32.toInt32))])) _
          refine XS.bipush X0.here hx rfl (hb hby at_18) ?_
          show Steps p.tables e below (s₁.setTop (mkF m 20 #[.val (.int p1), .val (.int (p1.toUInt32.toUInt16.toUInt32.toInt32)), .val (.int (p1.toUInt32.toUInt16.toUInt32.toInt32)), .unset] [(.int (13 : Int32)), (.int (p1.toUInt32.toUInt16.toUInt32.toInt32))])) _
          exact k)
      by_cases k33 : (13 : Int32) < (p1.toUInt32.toUInt16.toUInt32.toInt32)
      · skip
        have q34 : ∀ t, Steps p.tables e below (s₁.setTop (mkF m 30 #[.val (.int p1), .val (.int (p1.toUInt32.toUInt16.toUInt32.toInt32)), .val (.int (p1.toUInt32.toUInt16.toUInt32.toInt32)), .val (.int (0 : Int32))] [(.int (p1.toUInt32.toUInt16.toUInt32.toInt32))])) t → Steps p.tables e below (s₁.setTop (entryFrame m #[(.int p1)] maxLocals)) t := fun t k => q32 t (by
            show Steps p.tables e below (s₁.setTop (mkF m 20 #[.val (.int p1), .val (.int (p1.toUInt32.toUInt16.toUInt32.toInt32)), .val (.int (p1.toUInt32.toUInt16.toUInt32.toInt32)), .unset] [(.int (13 : Int32)), (.int (p1.toUInt32.toUInt16.toUInt32.toInt32))])) _
            refine XS.icmpYes X0.here hx rfl (pc0 := 20) (pc' := 27) rfl (hb hby at_20) rfl (XT.ii_gt_t (k33 : (13 : Int32) < (p1.toUInt32.toUInt16.toUInt32.toInt32))) (by decide) (by decide) ?_
            show Steps p.tables e below (s₁.setTop (mkF m 27 #[.val (.int p1), .val (.int (p1.toUInt32.toUInt16.toUInt32.toInt32)), .val (.int (p1.toUInt32.toUInt16.toUInt32.toInt32)), .unset] [])) _
            refine XS.iconst X0.here hx rfl (hb hby at_27) ?_
            show Steps p.tables e below (s₁.setTop (mkF m 28 #[.val (.int p1), .val (.int (p1.toUInt32.toUInt16.toUInt32.toInt32)), .val (.int (p1.toUInt32.toUInt16.toUInt32.toInt32)), .unset] [(.int (0 : Int32))])) _
            refine XS.istoreN X0.here hx rfl (hb hby at_28) rfl (l' := #[.val (.int p1), .val (.int (p1.toUInt32.toUInt16.toUInt32.toInt32)), .val (.int (p1.toUInt32.toUInt16.toUInt32.toInt32)), .val (.int (0 : Int32))]) rfl ?_
            show Steps p.tables e below (s₁.setTop (mkF m 29 #[.val (.int p1), .val (.int (p1.toUInt32.toUInt16.toUInt32.toInt32)), .val (.int (p1.toUInt32.toUInt16.toUInt32.toInt32)), .val (.int (0 : Int32))] [])) _
            refine XS.iloadN X0.here hx rfl (hb hby at_29) rfl ?_
            show Steps p.tables e below (s₁.setTop (mkF m 30 #[.val (.int p1), .val (.int (p1.toUInt32.toUInt16.toUInt32.toInt32)), .val (.int (p1.toUInt32.toUInt16.toUInt32.toInt32)), .val (.int (0 : Int32))] [(.int (p1.toUInt32.toUInt16.toUInt32.toInt32))])) _
            exact k)
        obtain ⟨_, _, ⟨T35, L35, kk35, nn35⟩, -, X35, ⟨Lc35, hQ35, l35, y35, z35⟩, st35⟩ := Jvm.LawKit.callS X0 hx (y := (⟨"com/example/shtmlkit/shtmlkit/DirectiveReader", "isBlank", "(C)Z"⟩ : MethodName)) hown (mvT hZ (hw _ (List.mem_of_getElem? (i := 0) rfl))) (mvT hZ (hw _ (List.mem_of_getElem? (i := 1) rfl))) (mvT hZ (hw _ (List.mem_of_getElem? (i := 2) rfl))) (mvT hZ (hw _ (List.mem_of_getElem? (i := 3) rfl))) (by decide) (backOf (W := 0) (rm1 l Z a0 hw [] (p1.toUInt32.toUInt16.toUInt32.toInt32) h0 n0 Z0) hZ (hw _ (List.mem_of_getElem? (i := 3) rfl)) (hw _ (List.mem_of_getElem? (i := 2) rfl)) (by decide) (by decide)) (g := (mkF m 30 #[.val (.int p1), .val (.int (p1.toUInt32.toUInt16.toUInt32.toInt32)), .val (.int (p1.toUInt32.toUInt16.toUInt32.toInt32)), .val (.int (0 : Int32))] [(.int (p1.toUInt32.toUInt16.toUInt32.toInt32))])) rfl (by rw [hml]; rfl) (argsL := [(.int (p1.toUInt32.toUInt16.toUInt32.toInt32))]) (rest := []) (lenOf pd__C_Z rfl) rfl (by show 2 * 0 + _ ≤ _; exact Nat.le_of_eq rfl) (hb hby at_30) (fun _ _ => ⟨rfl, e0, (by decide : 0 + 0 ≤ _), (by decide : 0 + 0 ≤ _)⟩)
        dsimp only [Pt.U, Pt.locs, Pt.cells, Pt.slots] at X35 l35 y35 z35 st35 hQ35
        subst l35 y35 z35
        obtain ⟨rfl, Nq35, e35⟩ := hQ35
        have N35 := Fr.app N0 Nq35
        have q36 : ∀ t, Steps p.tables e below (T35.setTop (mkF m 33 #[.val (.int p1), .val (.int (p1.toUInt32.toUInt16.toUInt32.toInt32)), .val (.int (p1.toUInt32.toUInt16.toUInt32.toInt32)), .val (.int (0 : Int32))] [(.int (own_blank (p1.toUInt32.toUInt16.toUInt32.toInt32)))])) t → Steps p.tables e below (s₁.setTop (entryFrame m #[(.int p1)] maxLocals)) t := fun t k => q34 t (st35 t k)
        have q37 : ∀ t, Steps p.tables e below (T35.setTop (mkF m 42 #[.val (.int p1), .val (.int (p1.toUInt32.toUInt16.toUInt32.toInt32)), .val (.int (p1.toUInt32.toUInt16.toUInt32.toInt32)), .val (.int (0 : Int32))] [(.int (1 : Int32))])) t → Steps p.tables e below (s₁.setTop (entryFrame m #[(.int p1)] maxLocals)) t := fun t k => q36 t (by
            show Steps p.tables e below (T35.setTop (mkF m 33 #[.val (.int p1), .val (.int (p1.toUInt32.toUInt16.toUInt32.toInt32)), .val (.int (p1.toUInt32.toUInt16.toUInt32.toInt32)), .val (.int (0 : Int32))] [(.int (own_blank (p1.toUInt32.toUInt16.toUInt32.toInt32)))])) _
            refine XS.iloadN X35.here hx rfl (hb hby at_33) rfl ?_
            show Steps p.tables e below (T35.setTop (mkF m 34 #[.val (.int p1), .val (.int (p1.toUInt32.toUInt16.toUInt32.toInt32)), .val (.int (p1.toUInt32.toUInt16.toUInt32.toInt32)), .val (.int (0 : Int32))] [(.int (0 : Int32)), (.int (own_blank (p1.toUInt32.toUInt16.toUInt32.toInt32)))])) _
            refine XS.icmpNo X35.here hx rfl (hb hby at_34) rfl (XT.ii_ne_f ((own_bl _).trans (by unfold own_exp; rw [if_neg k21, if_neg k27, if_pos k33]) : (own_blank (p1.toUInt32.toUInt16.toUInt32.toInt32)) = (0 : Int32))) ?_
            show Steps p.tables e below (T35.setTop (mkF m 37 #[.val (.int p1), .val (.int (p1.toUInt32.toUInt16.toUInt32.toInt32)), .val (.int (p1.toUInt32.toUInt16.toUInt32.toInt32)), .val (.int (0 : Int32))] [])) _
            refine XS.iconst X35.here hx rfl (hb hby at_37) ?_
            show Steps p.tables e below (T35.setTop (mkF m 38 #[.val (.int p1), .val (.int (p1.toUInt32.toUInt16.toUInt32.toInt32)), .val (.int (p1.toUInt32.toUInt16.toUInt32.toInt32)), .val (.int (0 : Int32))] [(.int (1 : Int32))])) _
            refine XS.goto X35.here hx rfl (pc0 := 38) (pc' := 42) rfl (hb hby at_38) (by decide) (by decide) ?_
            show Steps p.tables e below (T35.setTop (mkF m 42 #[.val (.int p1), .val (.int (p1.toUInt32.toUInt16.toUInt32.toInt32)), .val (.int (p1.toUInt32.toUInt16.toUInt32.toInt32)), .val (.int (0 : Int32))] [(.int (1 : Int32))])) _
            exact k)
        obtain ⟨fs, hr, hrun, hended, hW, hsame⟩ := X35.leave (v := some (.int (1 : Int32))) (fun h => by rw [Bd.returns] at h; cases h)
        refine ⟨_, _, q37 _ ?_, hrun, hended, _, _, rfl, ?_, ⟨_, rfl⟩, hW, hsame.mono (by decide) (by decide)⟩
        · show Steps p.tables e below (T35.setTop (mkF m 42 #[.val (.int p1), .val (.int (p1.toUInt32.toUInt16.toUInt32.toInt32)), .val (.int (p1.toUInt32.toUInt16.toUInt32.toInt32)), .val (.int (0 : Int32))] [(.int (1 : Int32))])) _
          exact retN X35 hx (t := .boolean) Bd.returns (by simp) (hb hby at_42) hr
        · show QL n0 _ T35.heap _
          exact ⟨rfl, N35⟩
      · skip
        have q38 : ∀ t, Steps p.tables e below (s₁.setTop (mkF m 30 #[.val (.int p1), .val (.int (p1.toUInt32.toUInt16.toUInt32.toInt32)), .val (.int (p1.toUInt32.toUInt16.toUInt32.toInt32)), .val (.int (1 : Int32))] [(.int (p1.toUInt32.toUInt16.toUInt32.toInt32))])) t → Steps p.tables e below (s₁.setTop (entryFrame m #[(.int p1)] maxLocals)) t := fun t k => q32 t (by
            show Steps p.tables e below (s₁.setTop (mkF m 20 #[.val (.int p1), .val (.int (p1.toUInt32.toUInt16.toUInt32.toInt32)), .val (.int (p1.toUInt32.toUInt16.toUInt32.toInt32)), .unset] [(.int (13 : Int32)), (.int (p1.toUInt32.toUInt16.toUInt32.toInt32))])) _
            refine XS.icmpNo X0.here hx rfl (hb hby at_20) rfl (XT.ii_gt_f (k33 : ¬ ((13 : Int32) < (p1.toUInt32.toUInt16.toUInt32.toInt32)))) ?_
            show Steps p.tables e below (s₁.setTop (mkF m 23 #[.val (.int p1), .val (.int (p1.toUInt32.toUInt16.toUInt32.toInt32)), .val (.int (p1.toUInt32.toUInt16.toUInt32.toInt32)), .unset] [])) _
            refine XS.iconst X0.here hx rfl (hb hby at_23) ?_
            show Steps p.tables e below (s₁.setTop (mkF m 24 #[.val (.int p1), .val (.int (p1.toUInt32.toUInt16.toUInt32.toInt32)), .val (.int (p1.toUInt32.toUInt16.toUInt32.toInt32)), .unset] [(.int (1 : Int32))])) _
            refine XS.goto X0.here hx rfl (pc0 := 24) (pc' := 28) rfl (hb hby at_24) (by decide) (by decide) ?_
            show Steps p.tables e below (s₁.setTop (mkF m 28 #[.val (.int p1), .val (.int (p1.toUInt32.toUInt16.toUInt32.toInt32)), .val (.int (p1.toUInt32.toUInt16.toUInt32.toInt32)), .unset] [(.int (1 : Int32))])) _
            refine XS.istoreN X0.here hx rfl (hb hby at_28) rfl (l' := #[.val (.int p1), .val (.int (p1.toUInt32.toUInt16.toUInt32.toInt32)), .val (.int (p1.toUInt32.toUInt16.toUInt32.toInt32)), .val (.int (1 : Int32))]) rfl ?_
            show Steps p.tables e below (s₁.setTop (mkF m 29 #[.val (.int p1), .val (.int (p1.toUInt32.toUInt16.toUInt32.toInt32)), .val (.int (p1.toUInt32.toUInt16.toUInt32.toInt32)), .val (.int (1 : Int32))] [])) _
            refine XS.iloadN X0.here hx rfl (hb hby at_29) rfl ?_
            show Steps p.tables e below (s₁.setTop (mkF m 30 #[.val (.int p1), .val (.int (p1.toUInt32.toUInt16.toUInt32.toInt32)), .val (.int (p1.toUInt32.toUInt16.toUInt32.toInt32)), .val (.int (1 : Int32))] [(.int (p1.toUInt32.toUInt16.toUInt32.toInt32))])) _
            exact k)
        obtain ⟨_, _, ⟨T39, L39, kk39, nn39⟩, -, X39, ⟨Lc39, hQ39, l39, y39, z39⟩, st39⟩ := Jvm.LawKit.callS X0 hx (y := (⟨"com/example/shtmlkit/shtmlkit/DirectiveReader", "isBlank", "(C)Z"⟩ : MethodName)) hown (mvT hZ (hw _ (List.mem_of_getElem? (i := 0) rfl))) (mvT hZ (hw _ (List.mem_of_getElem? (i := 1) rfl))) (mvT hZ (hw _ (List.mem_of_getElem? (i := 2) rfl))) (mvT hZ (hw _ (List.mem_of_getElem? (i := 3) rfl))) (by decide) (backOf (W := 0) (rm1 l Z a0 hw [] (p1.toUInt32.toUInt16.toUInt32.toInt32) h0 n0 Z0) hZ (hw _ (List.mem_of_getElem? (i := 3) rfl)) (hw _ (List.mem_of_getElem? (i := 2) rfl)) (by decide) (by decide)) (g := (mkF m 30 #[.val (.int p1), .val (.int (p1.toUInt32.toUInt16.toUInt32.toInt32)), .val (.int (p1.toUInt32.toUInt16.toUInt32.toInt32)), .val (.int (1 : Int32))] [(.int (p1.toUInt32.toUInt16.toUInt32.toInt32))])) rfl (by rw [hml]; rfl) (argsL := [(.int (p1.toUInt32.toUInt16.toUInt32.toInt32))]) (rest := []) (lenOf pd__C_Z rfl) rfl (by show 2 * 0 + _ ≤ _; exact Nat.le_of_eq rfl) (hb hby at_30) (fun _ _ => ⟨rfl, e0, (by decide : 0 + 0 ≤ _), (by decide : 0 + 0 ≤ _)⟩)
        dsimp only [Pt.U, Pt.locs, Pt.cells, Pt.slots] at X39 l39 y39 z39 st39 hQ39
        subst l39 y39 z39
        obtain ⟨rfl, Nq39, e39⟩ := hQ39
        have N39 := Fr.app N0 Nq39
        have q40 : ∀ t, Steps p.tables e below (T39.setTop (mkF m 33 #[.val (.int p1), .val (.int (p1.toUInt32.toUInt16.toUInt32.toInt32)), .val (.int (p1.toUInt32.toUInt16.toUInt32.toInt32)), .val (.int (1 : Int32))] [(.int (own_blank (p1.toUInt32.toUInt16.toUInt32.toInt32)))])) t → Steps p.tables e below (s₁.setTop (entryFrame m #[(.int p1)] maxLocals)) t := fun t k => q38 t (st39 t k)
        have q41 : ∀ t, Steps p.tables e below (T39.setTop (mkF m 42 #[.val (.int p1), .val (.int (p1.toUInt32.toUInt16.toUInt32.toInt32)), .val (.int (p1.toUInt32.toUInt16.toUInt32.toInt32)), .val (.int (1 : Int32))] [(.int (1 : Int32))])) t → Steps p.tables e below (s₁.setTop (entryFrame m #[(.int p1)] maxLocals)) t := fun t k => q40 t (by
            show Steps p.tables e below (T39.setTop (mkF m 33 #[.val (.int p1), .val (.int (p1.toUInt32.toUInt16.toUInt32.toInt32)), .val (.int (p1.toUInt32.toUInt16.toUInt32.toInt32)), .val (.int (1 : Int32))] [(.int (own_blank (p1.toUInt32.toUInt16.toUInt32.toInt32)))])) _
            refine XS.iloadN X39.here hx rfl (hb hby at_33) rfl ?_
            show Steps p.tables e below (T39.setTop (mkF m 34 #[.val (.int p1), .val (.int (p1.toUInt32.toUInt16.toUInt32.toInt32)), .val (.int (p1.toUInt32.toUInt16.toUInt32.toInt32)), .val (.int (1 : Int32))] [(.int (1 : Int32)), (.int (own_blank (p1.toUInt32.toUInt16.toUInt32.toInt32)))])) _
            refine XS.icmpNo X39.here hx rfl (hb hby at_34) rfl (XT.ii_ne_f ((own_bl _).trans (by unfold own_exp; rw [if_neg k21, if_neg k27, if_neg k33]) : (own_blank (p1.toUInt32.toUInt16.toUInt32.toInt32)) = (1 : Int32))) ?_
            show Steps p.tables e below (T39.setTop (mkF m 37 #[.val (.int p1), .val (.int (p1.toUInt32.toUInt16.toUInt32.toInt32)), .val (.int (p1.toUInt32.toUInt16.toUInt32.toInt32)), .val (.int (1 : Int32))] [])) _
            refine XS.iconst X39.here hx rfl (hb hby at_37) ?_
            show Steps p.tables e below (T39.setTop (mkF m 38 #[.val (.int p1), .val (.int (p1.toUInt32.toUInt16.toUInt32.toInt32)), .val (.int (p1.toUInt32.toUInt16.toUInt32.toInt32)), .val (.int (1 : Int32))] [(.int (1 : Int32))])) _
            refine XS.goto X39.here hx rfl (pc0 := 38) (pc' := 42) rfl (hb hby at_38) (by decide) (by decide) ?_
            show Steps p.tables e below (T39.setTop (mkF m 42 #[.val (.int p1), .val (.int (p1.toUInt32.toUInt16.toUInt32.toInt32)), .val (.int (p1.toUInt32.toUInt16.toUInt32.toInt32)), .val (.int (1 : Int32))] [(.int (1 : Int32))])) _
            exact k)
        obtain ⟨fs, hr, hrun, hended, hW, hsame⟩ := X39.leave (v := some (.int (1 : Int32))) (fun h => by rw [Bd.returns] at h; cases h)
        refine ⟨_, _, q41 _ ?_, hrun, hended, _, _, rfl, ?_, ⟨_, rfl⟩, hW, hsame.mono (by decide) (by decide)⟩
        · show Steps p.tables e below (T39.setTop (mkF m 42 #[.val (.int p1), .val (.int (p1.toUInt32.toUInt16.toUInt32.toInt32)), .val (.int (p1.toUInt32.toUInt16.toUInt32.toInt32)), .val (.int (1 : Int32))] [(.int (1 : Int32))])) _
          exact retN X39 hx (t := .boolean) Bd.returns (by simp) (hb hby at_42) hr
        · show QL n0 _ T39.heap _
          exact ⟨rfl, N39⟩
set_option maxRecDepth 65536 in
set_option maxHeartbeats 40000000 in
theorem comes_1 {Post : Tables → Env → Array Value → State → Outcome → State → Prop} (hpost : ∀ tb e args s v u, (limb_1_1.after args s (.returned v) u = true ∧ limb_1_2.after args s (.returned v) u = true ∧ True) → FrameEnd s (.returned v) u (Jvm.fieldLocs frame_1_writes args s ++ Jvm.arrayLocs frame_1_arrays args s ++ Jvm.staticLocs frame_1_statics s) 0 0 → Post tb e args s (.returned v) u) :
    ArmFor flags0 classFile x code maxLocals ret World_1 tables_1 room_1 Calls_1 rest_1 Pre_1 Post := by
  intro l hfl _ _ p e ha hc hk s m args below hf hA hF happ hP
  obtain ⟨hcalls, hrest, hpre⟩ := hP
  obtain ⟨-, -, -, hnamed, -, -, -, hat⟩ := (Spec.applies_iff hf).mp happ
  obtain ⟨hg, hn⟩ := and_e (Cond.before_iff.mp (show (Jvm.Cond.and given_1 narrow_1).before args s = true from hpre))
  obtain ⟨gc, r0⟩ := and_e hg
  obtain ⟨w0, rfl⟩ : ∃ w0 : Value, args = #[w0] := by
    have hs : args.size = 1 := by simpa [Cond.value, given_1] using gc
    obtain ⟨L⟩ := args
    match L, hs with
    | [w0], _ => exact ⟨w0, rfl⟩
  have hw := fun d (hd : d ∈ tables_1) => atoms_spec (ws := Jvm.Cond.code x code maxLocals ret :: tables_1) hat d (List.mem_cons_of_mem _ hd)
  obtain ⟨i0, ei0⟩ := is_v r0
  obtain rfl : w0 = (.int i0) := Option.some.inj ei0
  obtain ⟨n, o, h1, h2, h3, _, L, rfl, ⟨rfl, N⟩, hq⟩ := rm0 l s _ hw tables_1 i0 s.heap s.heap.size (Nat.le_refl _) p e ha hc hk s m _ below hf ((Spec.applies_iff_loose hf).mp happ).1 ⟨rfl, State.Warmed39.refl s, rfl⟩ trivial
  refine ⟨n, _, h1, h2, h3, hpost _ _ _ _ _ _ ⟨Cond.after_iff.mpr rfl, Cond.after_iff.mpr (eq_i res_at (Term.int_eval (1)) rfl), trivial⟩ ⟨hq.1, hq.2.1, (hq.2.2.sift fun y hy => Or.inr (N y hy)).mono (by decide) (by decide)⟩⟩
theorem main_1_1 : Claimed_1_1 := comes_1 fun _ _ _ _ _ _ h hF => ⟨h.1, hF⟩
theorem main_1_2 : Claimed_1_2 := comes_1 fun _ _ _ _ _ _ h hF => ⟨h.2.1, hF⟩
end Jvm.Pilot.@@N@@
namespace Jvm.Pilot.@@N@@
open Jvm Jvm.ClassFile Sem Op Lib Jvm.Free Jvm.Stand Jvm.Pilot.@@N@@.Jvm.D
/-! MADE BY PROGRAM (witnessworld.py) out of the Statement's table words and the real class files: 7 classes; the members and pool entries that the words name. The judged class is class 1, her method 1. -/
namespace start1
open Jvm.ClassFile
def u (s : String) : CpInfo := .utf8 (stringToUtf16 s)
/-- a pool by its gaps: so many unusable entries, then the entry; so many at the end -/
def gap : Nat → List CpInfo → List CpInfo
  | 0, r => r
  | n + 1, r => .unusable :: gap n r
def poolList (es : List (Nat × CpInfo)) (last : Nat) : List CpInfo := es.foldr (fun e r => gap e.1 (e.2 :: r)) (gap last [])
def pool (es : List (Nat × CpInfo)) (last : Nat) : Array CpInfo := ⟨poolList es last⟩
def fileOf (pool : Array CpInfo) (this : Nat) (attrs : Array Attribute := #[]) (ms : Array MethodInfo := #[]) (fl : Nat := 33) (sup : Nat := 0) (ifs : Array Nat := #[]) (fds : Array FieldInfo := #[]) : ClassFile where
  minorVersion := 0
  majorVersion := 65
  constantPool := pool
  accessFlags := fl
  thisClass := this
  superClass := sup
  interfaces := ifs
  fields := fds
  methods := ms
  attributes := attrs
def plain (name : String) (sup : Option ClassId) : Class where
  name := name
  kind := .ordinary
  loader := none
  accessFlags := 33
  super := sup
  interfaces := #[]
  cf := none
  fields := #[]
  methods := #[]
  instanceTypes := #[]
  staticTypes := #[]
  resolved := #[]
  callSites := []
  init := .initialized
  statics := none
  mirror := none

def pool0 : Array CpInfo := pool [(5, u "<init>"), (0, u "()V"), (1, .class_ 10), (1, u "java/lang/Object")] 113

def k0m0 : Method := { name := "<init>", desc := "()V", sig := { parameters := [], returnType := none }, accessFlags := 1, code := none }
/-- java/lang/Object -/
def k0 : Class := { plain "java/lang/Object" none with
  accessFlags := 33
  interfaces := #[]
  cf := some (fileOf pool0 8 #[] #[{ accessFlags := 1, nameIndex := 5, descriptorIndex := 6, attributes := #[] }] 33 0 #[] #[])
  fields := #[]
  methods := #[k0m0]
  instanceTypes := #[]
  staticTypes := #[]
  resolved := Array.replicate 124 none
  statics := none }

def pool1 : Array CpInfo := pool [(2, .class_ 4), (1, u "java/lang/Object"), (0, u "<init>"), (0, u "()V"), (0, .methodref 8 9), (0, .class_ 10), (0, .nameAndType 11 12), (0, u "com/example/shtmlkit/shtmlkit/DirectiveReader"), (0, u "isBlank"), (0, u "(C)Z"), (0, .class_ 14), (0, u "com/example/shtmlkit/shtmlkit/DirectiveReaderIsBlankPinLaw"), (2, u "law"), (0, u "(I)Z")] 3

def k1m0 : Method := { name := "<init>", desc := "()V", sig := { parameters := [], returnType := none }, accessFlags := 2, code := none }
def k1c1 : Code := { maxStack := 2, maxLocals := 4, code := code, exceptionTable := #[], attributes := #[] }
def k1m1 : Method := { name := "law", desc := "(I)Z", sig := { parameters := [.int], returnType := some .boolean }, accessFlags := 9, code := some k1c1 }
/-- com/example/shtmlkit/shtmlkit/DirectiveReaderIsBlankPinLaw -/
def k1 : Class := { plain "com/example/shtmlkit/shtmlkit/DirectiveReaderIsBlankPinLaw" (some 0) with
  accessFlags := 49
  interfaces := #[]
  cf := some (fileOf pool1 13 #[] #[{ accessFlags := 2, nameIndex := 5, descriptorIndex := 6, attributes := #[] }, { accessFlags := 9, nameIndex := 17, descriptorIndex := 18, attributes := #[] }] 49 2 #[] #[])
  fields := #[]
  methods := #[k1m0, k1m1]
  instanceTypes := #[]
  staticTypes := #[]
  resolved := Array.replicate 22 none
  statics := none }

def pool2 : Array CpInfo := pool [(2, .class_ 4), (1, u "java/lang/Object"), (0, u "<init>"), (0, u "()V"), (1, .class_ 10), (1, u "com/example/shtmlkit/shtmlkit/DirectiveReader$State"), (1, u "Lcom/example/shtmlkit/shtmlkit/DirectiveReader$State;"), (1, .class_ 16), (1, u "com/example/shtmlkit/shtmlkit/DirectiveReader"), (0, u "state"), (5, u "element"), (0, u "Ljava/lang/StringBuilder;"), (2, u "name"), (2, u "value"), (5, u "taken"), (0, u "Ljava/util/List;"), (2, u "holding"), (0, u "Z"), (3, u "(C)Z"), (2, u "problem"), (0, u "Ljava/lang/String;"), (2, u "read"), (0, u "Lcom/example/shtmlkit/shtmlkit/Directive;"), (10, u "dashes"), (0, u "J"), (19, u "isBlank"), (34, u "quote"), (0, u "C"), (19, u "count"), (0, u "I"), (32, u "held"), (42, u "NO_ELEMENT"), (1, u "LIMIT"), (0, u "MAX_ATTRIBUTES")] 29

def k2m0 : Method := { name := "<init>", desc := "()V", sig := { parameters := [], returnType := none }, accessFlags := 0, code := none }
def k2c1 : Code := { maxStack := 2, maxLocals := 1, code := prog_9_method_18_code, exceptionTable := #[], attributes := #[] }
def k2m1 : Method := { name := "isBlank", desc := "(C)Z", sig := { parameters := [.char], returnType := some .boolean }, accessFlags := 8, code := some k2c1 }
/-- com/example/shtmlkit/shtmlkit/DirectiveReader -/
def k2 : Class := { plain "com/example/shtmlkit/shtmlkit/DirectiveReader" (some 0) with
  accessFlags := 48
  interfaces := #[]
  cf := some (fileOf pool2 14 #[.nestMembers #[8]] #[{ accessFlags := 0, nameIndex := 5, descriptorIndex := 6, attributes := #[] }, { accessFlags := 8, nameIndex := 85, descriptorIndex := 45, attributes := #[] }] 48 2 #[] #[{ accessFlags := 26, nameIndex := 218, descriptorIndex := 49, attributes := #[] }, { accessFlags := 24, nameIndex := 220, descriptorIndex := 142, attributes := #[] }, { accessFlags := 24, nameIndex := 221, descriptorIndex := 142, attributes := #[] }, { accessFlags := 2, nameIndex := 17, descriptorIndex := 12, attributes := #[] }, { accessFlags := 2, nameIndex := 64, descriptorIndex := 65, attributes := #[] }, { accessFlags := 2, nameIndex := 120, descriptorIndex := 121, attributes := #[] }, { accessFlags := 18, nameIndex := 23, descriptorIndex := 24, attributes := #[] }, { accessFlags := 18, nameIndex := 27, descriptorIndex := 24, attributes := #[] }, { accessFlags := 18, nameIndex := 30, descriptorIndex := 24, attributes := #[] }, { accessFlags := 18, nameIndex := 36, descriptorIndex := 37, attributes := #[] }, { accessFlags := 2, nameIndex := 40, descriptorIndex := 41, attributes := #[] }, { accessFlags := 2, nameIndex := 175, descriptorIndex := 142, attributes := #[] }, { accessFlags := 2, nameIndex := 141, descriptorIndex := 142, attributes := #[] }, { accessFlags := 2, nameIndex := 48, descriptorIndex := 49, attributes := #[] }, { accessFlags := 2, nameIndex := 52, descriptorIndex := 53, attributes := #[] }])
  fields := #[{ name := "NO_ELEMENT", type := (.object "java/lang/String"), accessFlags := 26, slot := 0, constantValue := 0 }, { name := "LIMIT", type := .int, accessFlags := 24, slot := 1, constantValue := 0 }, { name := "MAX_ATTRIBUTES", type := .int, accessFlags := 24, slot := 2, constantValue := 0 }, { name := "state", type := (.object "com/example/shtmlkit/shtmlkit/DirectiveReader$State"), accessFlags := 2, slot := 0, constantValue := 0 }, { name := "dashes", type := .long, accessFlags := 2, slot := 1, constantValue := 0 }, { name := "quote", type := .char, accessFlags := 2, slot := 2, constantValue := 0 }, { name := "element", type := (.object "java/lang/StringBuilder"), accessFlags := 18, slot := 3, constantValue := 0 }, { name := "name", type := (.object "java/lang/StringBuilder"), accessFlags := 18, slot := 4, constantValue := 0 }, { name := "value", type := (.object "java/lang/StringBuilder"), accessFlags := 18, slot := 5, constantValue := 0 }, { name := "taken", type := (.object "java/util/List"), accessFlags := 18, slot := 6, constantValue := 0 }, { name := "holding", type := .boolean, accessFlags := 2, slot := 7, constantValue := 0 }, { name := "held", type := .int, accessFlags := 2, slot := 8, constantValue := 0 }, { name := "count", type := .int, accessFlags := 2, slot := 9, constantValue := 0 }, { name := "problem", type := (.object "java/lang/String"), accessFlags := 2, slot := 10, constantValue := 0 }, { name := "read", type := (.object "com/example/shtmlkit/shtmlkit/Directive"), accessFlags := 2, slot := 11, constantValue := 0 }]
  methods := #[k2m0, k2m1]
  instanceTypes := #[(.object "com/example/shtmlkit/shtmlkit/DirectiveReader$State"), .long, .char, (.object "java/lang/StringBuilder"), (.object "java/lang/StringBuilder"), (.object "java/lang/StringBuilder"), (.object "java/util/List"), .boolean, .int, .int, (.object "java/lang/String"), (.object "com/example/shtmlkit/shtmlkit/Directive")]
  staticTypes := #[(.object "java/lang/String"), .int, .int]
  resolved := Array.replicate 251 none
  statics := none }

def pool3 : Array CpInfo := pool [(1, u "java/lang/Cloneable"), (0, .class_ 1), (0, u "java/lang/Object"), (0, .class_ 3)] 3

/-- java/lang/Cloneable -/
def k3 : Class := { plain "java/lang/Cloneable" (some 0) with
  accessFlags := 1537
  interfaces := #[]
  cf := some (fileOf pool3 2 #[] #[] 1537 4 #[] #[])
  fields := #[]
  methods := #[]
  instanceTypes := #[]
  staticTypes := #[]
  resolved := Array.replicate 8 none
  statics := none }

def pool4 : Array CpInfo := pool [(1, u "java/io/Serializable"), (0, .class_ 1), (0, u "java/lang/Object"), (0, .class_ 3)] 3

/-- java/io/Serializable -/
def k4 : Class := { plain "java/io/Serializable" (some 0) with
  accessFlags := 1537
  interfaces := #[]
  cf := some (fileOf pool4 2 #[] #[] 1537 4 #[] #[])
  fields := #[]
  methods := #[]
  instanceTypes := #[]
  staticTypes := #[]
  resolved := Array.replicate 8 none
  statics := none }

/-- the primitive byte -/
def k5 : Class := { plain "byte" none with kind := .primitive 'B', accessFlags := 0x411 }
/-- [B -/
def k6 : Class := { plain "[B" (some 0) with kind := .array 5 .byte, interfaces := #[3, 4], accessFlags := 1041 }

def heap : Heap := #[]
def classes : Array Class := #[k0, k1, k2, k3, k4, k5, k6]
def interned : List (Array UInt16 × Addr) := []
def slotsUsed : Nat := 0
def theMethod : MethodId := ⟨1, 1⟩
def args0 : Array Value := #[.int 5]
def aboutOver (below : List Frame) : State where
  vm := { classes := classes, interned := interned.toArray }
  heap := heap
  slotsUsed := slotsUsed
  threads := #[{ frames := .invoking theMethod args0 :: below }]
def below0 : List Frame := [.native { method := ⟨0, 0⟩, args := #[] }]
def about1 : State := aboutOver below0
def p0 : Program := .bare "" "" ""
def e0 : Env := launch0.env 0 0 0
theorem w_frames : about1.frames = Frame.invoking theMethod args0 :: below0 := rfl
set_option maxRecDepth 65536 in
theorem w_args : argsFit about1.vm theMethod args0 = true := by decide +kernel
set_option maxRecDepth 65536 in
theorem w_heap : heapFits about1 = true := by decide +kernel
set_option maxRecDepth 65536 in
theorem w_runnable : about1.curStatus? = some .runnable := by decide +kernel
set_option maxRecDepth 65536 in
theorem w_alone : about1.alone = true := by decide +kernel
set_option maxRecDepth 65536 in
theorem w_named : about1.methodNamed? x = some theMethod := by decide +kernel
set_option maxRecDepth 65536 in
theorem w_hears : about1.hears theMethod below0 = true := by decide +kernel
set_option maxRecDepth 65536 in
theorem w_ripe : about1.ripe theMethod args0 below0 = true := by decide +kernel
theorem w_running : about1.status = .running := rfl
set_option maxRecDepth 65536 in
theorem w_room : about1.hasRoom e0.platform room_1 = true :=
  launch0.hasRoom_least _ room_1 (by decide +kernel) (by decide +kernel) (by decide +kernel) (by decide +kernel) (by decide +kernel) (by decide +kernel)
theorem allAtoms_all (ts : List Jvm.Cond) (a : Array Jvm.Value) (st : Jvm.State) : (allAtoms ts).before a st = ts.all (fun c => c.before a st) := by
  induction ts with
  | nil => rfl
  | cons c t ih =>
    show (Jvm.Cond.and c (allAtoms t)).before a st = _
    rw [Jvm.Cond.before_and, ih, List.all_cons]
def words1 : List Jvm.Cond := Jvm.Cond.code x code maxLocals ret :: tables_1
/-- a 'code' word, met by the world's own term for the bytes: nothing is compared byte by byte -/
theorem code_word {y : MethodName} {bytes : ByteArray} {mx : Nat} {rt : Option FieldType} {a : Array Value} {s : State} {m : MethodId} {meth : Method} {c : Code} (h1 : s.methodNamed? y = some m) (h2 : s.vm.method? m = some meth) (h3 : meth.code = some c) (h4 : c.code = bytes)
    (h5 : (c.maxLocals == mx && c.exceptionTable.isEmpty && decide (c.maxStack ≤ mostOperands) && decide (meth.sig.returnType = rt) && !meth.locks && decide (parseMethodDescriptor y.desc = some meth.sig)) = true) : (Jvm.Cond.code y bytes mx rt).before a s = true := by
  simp only [Bool.and_eq_true, beq_iff_eq, Bool.not_eq_true', decide_eq_true_eq] at h5
  obtain ⟨⟨⟨⟨⟨g1, g2⟩, g3⟩, g4⟩, g5⟩, g6⟩ := h5
  simp [Cond.before, Cond.holds, Cond.value, h1, h2, h3, h4, g1, g2, g3, g4, g5, g6]
def isCode : Jvm.Cond → Bool
  | .code _ _ _ _ => true
  | _ => false
theorem all_split {L : List Jvm.Cond} {P : Jvm.Cond → Bool} (h1 : L.all (fun c => isCode c || P c) = true) (h2 : ∀ c ∈ L.filter isCode, P c = true) : L.all P = true := by
  refine List.all_eq_true.mpr fun c hc => ?_
  have h := List.all_eq_true.mp h1 c hc
  rcases Bool.eq_false_or_eq_true (isCode c) with hi | hi
  · exact h2 c (List.mem_filter.mpr ⟨hc, hi⟩)
  · simpa [hi] using h
set_option maxRecDepth 65536 in
theorem w_c0 : (Jvm.Cond.code x code maxLocals ret).before args0 about1 = true := code_word (m := ⟨1, 1⟩) (meth := k1m1) (c := k1c1) (by decide +kernel) rfl rfl rfl (by decide +kernel)
set_option maxRecDepth 65536 in
theorem w_c1 : (Jvm.Cond.code ({ cls := "com/example/shtmlkit/shtmlkit/DirectiveReader", name := "isBlank", desc := "(C)Z" } : Jvm.MethodName) prog_9_method_18_code (1 : Nat) (Option.some Jvm.ClassFile.FieldType.boolean)).before args0 about1 = true := code_word (m := ⟨2, 1⟩) (meth := k2m1) (c := k2c1) (by decide +kernel) rfl rfl rfl (by decide +kernel)
def codes1 : List Jvm.Cond := [Jvm.Cond.code x code maxLocals ret, Jvm.Cond.code ({ cls := "com/example/shtmlkit/shtmlkit/DirectiveReader", name := "isBlank", desc := "(C)Z" } : Jvm.MethodName) prog_9_method_18_code (1 : Nat) (Option.some Jvm.ClassFile.FieldType.boolean)]
set_option maxRecDepth 65536 in
theorem codes_eq : words1.filter isCode = codes1 := rfl
theorem w_codes : ∀ c ∈ words1.filter isCode, c.before args0 about1 = true := by
  rw [codes_eq]
  intro c hc
  simp only [codes1, List.mem_cons, List.not_mem_nil, or_false] at hc
  rcases hc with rfl | rfl
  · exact w_c0
  · exact w_c1
set_option maxRecDepth 65536 in
theorem w_t1 : words1.all (fun c => isCode c || c.before args0 about1) = true := by decide +kernel
theorem w_tables : (allAtoms (Jvm.Cond.code x code maxLocals ret :: tables_1)).before args0 about1 = true := by
  rw [allAtoms_all]
  show words1.all (fun c => c.before args0 about1) = true
  refine all_split ?_ w_codes
  rw [w_t1]
set_option maxRecDepth 65536 in
theorem w_case : (Jvm.Cond.and given_1 narrow_1).before args0 about1 = true := by decide +kernel
theorem w_applies : (headSpec (Jvm.Cond.code x code maxLocals ret :: tables_1) room_1).applies x e0.platform about1 = true :=
  (Spec.applies_iff w_frames).mpr ⟨w_running, w_runnable, w_alone, w_named, w_hears, w_ripe, w_room, w_tables⟩
theorem atStart : AtStart classFile x code maxLocals ret World_1 tables_1 room_1 Calls_1 rest_1 Pre_1 launch0 p0 e0 about1 theMethod args0 below0 :=
  ⟨lists_1, trivial, launch0.admits_env _ _ _, launch0.least_env, fairChoices_fair.cas, fairChoices_fair.clock, w_frames, w_args, w_heap, w_applies, trivial, trivial, w_case⟩
end start1
theorem witness_1 : WitnessClaimed_1 := ⟨start1.p0, start1.e0, start1.about1, start1.theMethod, start1.args0, start1.below0, start1.atStart⟩
end Jvm.Pilot.@@N@@
