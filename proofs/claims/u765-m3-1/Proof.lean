import JvmDerived
import JvmDerived.Pilot.@@N@@Statement
import JvmDerived.Pilot.@@N@@Code
set_option linter.unusedVariables false
set_option linter.unusedSimpArgs false
namespace Jvm.RoadKit
open Sem ClassFile Op Lib Jvm.Stand Jvm.Free Jvm.LawKit
section New
variable {p : Program} {l : Launch} {e : Env} {R : Room} {s : State} {m : MethodId} {args : Array Value} {below : List Frame} {meth : Method} {c : Code} {T : State} {locs : List Loc} {cells slots : Nat}
theorem retI (X : Stand p l e R s m args below meth c T locs cells slots) (hx : p.tables.exec = Jvm.exec) {pc : Nat} {Ls : Array Slot} {z : Int32} {rest : List Value} (hret : meth.sig.returnType = some .int) (hd : decode c.code pc = .ok (.ireturn, 1)) {fs : List Frame}
    (hl : ∀ (f : JFrame) (acts : List Action), f.method = m → f.locked = none → f.entered = [] → (doReturn e (T.setTop f) acts (some (.int z))).1 = T.setFrames fs) : Steps p.tables e below (T.setTop (mkF m pc Ls (.int z :: rest))) (T.setFrames fs) := by
  have hm' : T.vm.method? m = some meth := X.method'
  have hn : narrow .int (.int z) = .int z := rfl
  show Steps p.tables e below (T.setTop { method := m, pc := pc, locals := Ls, stack := _ :: rest, locked := none }) _
  jvm_step X.here [X.here.top, hx, hd, hm', hret, hn]
  first | (intro acts; rw [hl _ acts rfl rfl rfl]) | rw [hl _ _ rfl rfl rfl]
  exact Steps.refl _
end New
end Jvm.RoadKit
namespace Jvm.Pilot.@@N@@
open Jvm Jvm.ClassFile Sem Op Lib Jvm.Free Jvm.Stand Jvm.LawKit Jvm.RoadKit Bundle Jvm.Pilot.@@N@@.Jvm.D
def QN (r : Int32) (h0 : Heap) (n0 : Nat) (v : Option Value) (h : Heap) (L : List Loc) : Prop := v = some (.int r) ∧ Fr n0 L ∧ h = h0
theorem own_lt {x y : Int32} (h : x.toInt < y.toInt) : x < y := Int32.lt_iff_toInt_lt.mpr h
theorem own_nlt {x y : Int32} (h : ¬ x.toInt < y.toInt) : ¬ x < y := fun q => h (Int32.lt_iff_toInt_lt.mp q)
theorem own_eq {x y : Int32} (h : x.toInt = y.toInt) : x = y := Int32.toInt_inj.mp h
theorem own_ne {x y : Int32} (h : ¬ x.toInt = y.toInt) : ¬ x = y := fun q => h (Int32.toInt_inj.mpr q)
/-- 'dup2_x1' of a long over a word (the library has no step of it) -/
theorem own_dup2x1 {tb : Tables} [Ours tb] {e : Env} {below : List Frame} {T target : State} {m : MethodId} {c : Code} {g : JFrame} (h : At T m c below) (hx : tb.exec = Jvm.exec) (hg : g.method = m) {x : Int64} {y : Value} {rest : List Value} (hd : decode c.code g.pc = .ok (.dup2_x1, 1)) (hs : g.stack = .long x :: y :: rest) (hy : y.category = 1)
    (hr : Steps tb e below (T.setTop { g with pc := g.pc + 1, stack := .long x :: y :: .long x :: rest }) target) : Steps tb e below (T.setTop g) target := by
  subst hg
  have hc : (Value.long x).category = 2 := rfl
  jvm_step h [h.top, hx, hd, hs, hy, hc]
  exact hr
def QI (Z : State) (a : Addr) (q : Int64) (h0 : Heap) (n0 : Nat) (v : Option Value) (h : Heap) (L : List Loc) : Prop := v = none ∧ Fr n0 L ∧ Keep h0 h [a] ∧ Exa Z h a "org/edgehead/bench/SplitMix" ∧ Fld Z h a "org/edgehead/bench/SplitMix" "state" "J" (.long q)
def QJ (Z : State) (a : Addr) (r q : Int64) (h0 : Heap) (n0 : Nat) (v : Option Value) (h : Heap) (L : List Loc) : Prop := v = some (.long r) ∧ Fr n0 L ∧ Keep h0 h [a] ∧ Exa Z h a "org/edgehead/bench/SplitMix" ∧ Fld Z h a "org/edgehead/bench/SplitMix" "state" "J" (.long q)
def QK (Z : State) (a : Addr) (r : Int32) (q : Int64) (h0 : Heap) (n0 : Nat) (v : Option Value) (h : Heap) (L : List Loc) : Prop := v = some (.int r) ∧ Fr n0 L ∧ Keep h0 h [a] ∧ Exa Z h a "org/edgehead/bench/SplitMix" ∧ Fld Z h a "org/edgehead/bench/SplitMix" "state" "J" (.long q)
def own_g (s : Int64) : Int64 := s + (-7046029254386353131 : Int64)
def own_u (M : Int64) : Int64 := ((M.toUInt64 >>> ((32 : Int32) &&& 0x3f).toInt64.toUInt64).toInt64)
def own_p (M : Int64) (B : Int32) : Int64 := own_u M * B.toInt64
def own_r (M : Int64) (B : Int32) : Int32 := (((own_p M B).toUInt64 >>> ((32 : Int32) &&& 0x3f).toInt64.toUInt64).toInt64).toInt32
def own_sh (r : Int32) : Int64 := r.toInt64 <<< ((32 : Int32) &&& 0x3f).toInt64
theorem own_law (M : Int64) (B : Int32) (hB : 1 ≤ B.toInt) : ¬ own_r M B < 0 ∧ own_r M B < B ∧ ¬ own_p M B < own_sh (own_r M B) ∧ own_p M B < own_sh (own_r M B + 1) := by
  have e32 : ((2 ^ 32 : Nat) : Int) = 4294967296 := by decide
  have u1 : (own_u M).toInt = (M.toInt % 18446744073709551616) / (2 ^ 32 : Nat) := c_lushr M 32 32 (by decide) (by decide)
  have m1 := rng64 M
  have b1 := rng32 B
  have hU : 0 ≤ (own_u M).toInt ∧ (own_u M).toInt ≤ 4294967295 := by rw [u1, e32]; omega
  have p1 : ((own_p M B).toInt - ((own_u M).toInt * B.toInt)) % 18446744073709551616 = 0 := by
    have q := c_lmul (own_u M) B.toInt64
    rw [c_i2l] at q; exact q
  have p2 := rng64 (own_p M B)
  have n1 : 0 ≤ (own_u M).toInt * B.toInt := Int.mul_nonneg hU.1 (by omega)
  have n2 : (own_u M).toInt * B.toInt ≤ 4294967295 * B.toInt := Int.mul_le_mul_of_nonneg_right hU.2 (by omega)
  generalize (own_u M).toInt * B.toInt = pr at *
  have p3 : (own_p M B).toInt = pr := by omega
  have r1 : ((((own_p M B).toUInt64 >>> ((32 : Int32) &&& 0x3f).toInt64.toUInt64).toInt64)).toInt = ((own_p M B).toInt % 18446744073709551616) / (2 ^ 32 : Nat) := c_lushr (own_p M B) 32 32 (by decide) (by decide)
  have r2 : ((own_r M B).toInt - ((((own_p M B).toUInt64 >>> ((32 : Int32) &&& 0x3f).toInt64.toUInt64).toInt64)).toInt) % 4294967296 = 0 := c_l2i _
  rw [r1, p3, e32] at r2
  have r3 := rng32 (own_r M B)
  have hr : (own_r M B).toInt = pr / 4294967296 := by omega
  have a1 := c_iadd (own_r M B) 1
  have a2 := rng32 (own_r M B + 1)
  have l1 : (1 : Int32).toInt = 1 := rfl
  have l0 : (0 : Int32).toInt = 0 := rfl
  have a3 : (own_r M B + 1).toInt = (own_r M B).toInt + 1 := by omega
  have s1 : ((own_sh (own_r M B)).toInt - (own_r M B).toInt * 4294967296) % 18446744073709551616 = 0 := by
    have q := c_lshl (own_r M B).toInt64 32 32 (by decide)
    rw [c_i2l, e32] at q; exact q
  have s2 := rng64 (own_sh (own_r M B))
  have s3 : ((own_sh (own_r M B + 1)).toInt - (own_r M B + 1).toInt * 4294967296) % 18446744073709551616 = 0 := by
    have q := c_lshl (own_r M B + 1).toInt64 32 32 (by decide)
    rw [c_i2l, e32] at q; exact q
  have s4 := rng64 (own_sh (own_r M B + 1))
  refine ⟨own_nlt (by omega), own_lt (by omega), fun q => ?_, Int64.lt_iff_toInt_lt.mpr (by omega)⟩
  have q' := Int64.lt_iff_toInt_lt.mp q
  omega
theorem ef_1 (m : MethodId) (p1 : Int32) (p2 : Int32) : entryFrame m #[(.int p1), (.int p2)] 2 = mkF m 0 #[.val (.int p1), .val (.int p2)] [] := by first | (simp [entryFrame, mkF, argsToLocals, Value.category]; done) | rfl
theorem d1_0 : decode jdk_29_method_65_code 0 = .ok (.iload_n 0, 1) := by decide +kernel
theorem d1_1 : decode jdk_29_method_65_code 1 = .ok (.iload_n 1, 1) := by decide +kernel
theorem d1_2 : decode jdk_29_method_65_code 2 = .ok (.if_icmp .lt 7, 3) := by decide +kernel
theorem d1_9 : decode jdk_29_method_65_code 9 = .ok (.iload_n 1, 1) := by decide +kernel
theorem d1_10 : decode jdk_29_method_65_code 10 = .ok (.ireturn, 1) := by decide +kernel
theorem d1_5 : decode jdk_29_method_65_code 5 = .ok (.iload_n 0, 1) := by decide +kernel
theorem d1_6 : decode jdk_29_method_65_code 6 = .ok (.goto 4, 3) := by decide +kernel
def own_max (p1 : Int32) (p2 : Int32) : Int32 := if p1 < p2 then p2 else p1
set_option maxRecDepth 65536 in
set_option maxHeartbeats 40000000 in
theorem rm1 (l : Launch) (Z : State) (a0 : Array Value) (hw : ∀ d ∈ tables_1, d.before a0 Z = true) (ws : List Jvm.Cond) (p1 : Int32) (p2 : Int32) (h0 : Heap) (n0 : Nat) (Z0 : n0 ≤ h0.size) :
    MetFree l (⟨"java/lang/Math", "max", "(II)I"⟩ : MethodName) (head1 (Jvm.Cond.code (⟨"java/lang/Math", "max", "(II)I"⟩ : MethodName) jdk_29_method_65_code 2 (some .int) :: ws) ({ frames := 0, cells := 0, slots := 0, locals := 0 } : Room)) (fun a U => a = #[(.int p1), (.int p2)] ∧ Z.Warmed39 U.vm ∧ U.heap = h0) (fun _ _ _ _ _ => True) (fun _ U o U' => ∃ v L, o = .returned v ∧ QN (own_max p1 p2) h0 n0 v U'.heap L ∧ FrameEnd U o U' L ({ frames := 0, cells := 0, slots := 0, locals := 0 } : Room).cells ({ frames := 0, cells := 0, slots := 0, locals := 0 } : Room).slots) := by
  refine MetFree.of_bodySF (Jvm.Free.JP.mathPlain rfl (by decide)) hisR ?_
  intro p e s m args below meth c s₁ Bd hml0 hP hK
  obtain ⟨rfl, hZ, hh⟩ := hP
  have hx := Bd.exec
  have hby := Bd.bytes
  have hml : c.maxLocals = 2 := hml0
  have hown : s.vm.findClass "java/lang/Math" = some m.cls := findClass_of_methodNamed Bd.named
  have hnm := (name_of_methodNamed Bd.named Bd.method).1
  have X0 : Stand p l e ({ frames := 0, cells := 0, slots := 0, locals := 0 } : Room) s m #[(.int p1), (.int p2)] below meth c s₁ [] 0 0 := Stand.of_body Bd
  have e0 : s₁.heap = h0 := by rw [← hh, Bd.state]; rfl
  have N0 := Fr.nil n0
  have pre0 : ∀ t, Steps p.tables e below (s₁.setTop (mkF m 0 #[.val (.int p1), .val (.int p2)] [])) t → Steps p.tables e below (s₁.setTop (entryFrame m #[(.int p1), (.int p2)] 2)) t := fun t k => castTop (ef_1 m p1 p2) k
  have q1 : ∀ t, Steps p.tables e below (s₁.setTop (mkF m 2 #[.val (.int p1), .val (.int p2)] [(.int p2), (.int p1)])) t → Steps p.tables e below (s₁.setTop (entryFrame m #[(.int p1), (.int p2)] 2)) t := fun t k => pre0 t (by
      show Steps p.tables e below (s₁.setTop (mkF m 0 #[.val (.int p1), .val (.int p2)] [])) _
      refine XS.iloadN X0.here hx rfl (hb hby d1_0) rfl ?_
      show Steps p.tables e below (s₁.setTop (mkF m 1 #[.val (.int p1), .val (.int p2)] [(.int p1)])) _
      refine XS.iloadN X0.here hx rfl (hb hby d1_1) rfl ?_
      show Steps p.tables e below (s₁.setTop (mkF m 2 #[.val (.int p1), .val (.int p2)] [(.int p2), (.int p1)])) _
      exact k)
  by_cases k2 : p1 < p2
  · skip
    have q3 : ∀ t, Steps p.tables e below (s₁.setTop (mkF m 10 #[.val (.int p1), .val (.int p2)] [(.int p2)])) t → Steps p.tables e below (s₁.setTop (entryFrame m #[(.int p1), (.int p2)] 2)) t := fun t k => q1 t (by
        show Steps p.tables e below (s₁.setTop (mkF m 2 #[.val (.int p1), .val (.int p2)] [(.int p2), (.int p1)])) _
        refine XS.icmpYes X0.here hx rfl (pc0 := 2) (pc' := 9) rfl (hb hby d1_2) rfl (XT.ii_lt_t (k2 : p1 < p2)) (by decide) (by decide) ?_
        show Steps p.tables e below (s₁.setTop (mkF m 9 #[.val (.int p1), .val (.int p2)] [])) _
        refine XS.iloadN X0.here hx rfl (hb hby d1_9) rfl ?_
        show Steps p.tables e below (s₁.setTop (mkF m 10 #[.val (.int p1), .val (.int p2)] [(.int p2)])) _
        exact k)
    obtain ⟨fs, hr, hrun, hended, hW, hsame⟩ := X0.leave (v := some (.int p2)) (fun h => by rw [Bd.returns] at h; cases h)
    refine ⟨_, _, q3 _ ?_, hrun, hended, _, _, rfl, ?_, ⟨_, rfl⟩, hW, hsame.mono (by decide) (by decide)⟩
    · show Steps p.tables e below (s₁.setTop (mkF m 10 #[.val (.int p1), .val (.int p2)] [(.int p2)])) _
      exact retI X0 hx Bd.returns (hb hby d1_10) hr
    · show QN (own_max p1 p2) h0 n0 _ s₁.heap _
      exact ⟨by unfold own_max; rw [if_pos k2], N0, e0⟩
  · skip
    have q4 : ∀ t, Steps p.tables e below (s₁.setTop (mkF m 10 #[.val (.int p1), .val (.int p2)] [(.int p1)])) t → Steps p.tables e below (s₁.setTop (entryFrame m #[(.int p1), (.int p2)] 2)) t := fun t k => q1 t (by
        show Steps p.tables e below (s₁.setTop (mkF m 2 #[.val (.int p1), .val (.int p2)] [(.int p2), (.int p1)])) _
        refine XS.icmpNo X0.here hx rfl (hb hby d1_2) rfl (XT.ii_lt_f (k2 : ¬ (p1 < p2))) ?_
        show Steps p.tables e below (s₁.setTop (mkF m 5 #[.val (.int p1), .val (.int p2)] [])) _
        refine XS.iloadN X0.here hx rfl (hb hby d1_5) rfl ?_
        show Steps p.tables e below (s₁.setTop (mkF m 6 #[.val (.int p1), .val (.int p2)] [(.int p1)])) _
        refine XS.goto X0.here hx rfl (pc0 := 6) (pc' := 10) rfl (hb hby d1_6) (by decide) (by decide) ?_
        show Steps p.tables e below (s₁.setTop (mkF m 10 #[.val (.int p1), .val (.int p2)] [(.int p1)])) _
        exact k)
    obtain ⟨fs, hr, hrun, hended, hW, hsame⟩ := X0.leave (v := some (.int p1)) (fun h => by rw [Bd.returns] at h; cases h)
    refine ⟨_, _, q4 _ ?_, hrun, hended, _, _, rfl, ?_, ⟨_, rfl⟩, hW, hsame.mono (by decide) (by decide)⟩
    · show Steps p.tables e below (s₁.setTop (mkF m 10 #[.val (.int p1), .val (.int p2)] [(.int p1)])) _
      exact retI X0 hx Bd.returns (hb hby d1_10) hr
    · show QN (own_max p1 p2) h0 n0 _ s₁.heap _
      exact ⟨by unfold own_max; rw [if_neg k2], N0, e0⟩
theorem pn_org_edgehead_bench_SplitMix : plainName "org/edgehead/bench/SplitMix" = true := by first | (simp [plainName, overriddenIn]; done) | decide +kernel
theorem ef_2 (m : MethodId) (a1 : Addr) (s1 : Int64) : entryFrame m #[(.ref a1), (.long s1)] 3 = mkF m 0 #[.val (.ref a1), .val (.long s1), .second] [] := by first | (simp [entryFrame, mkF, argsToLocals, Value.category]; done) | rfl
theorem d2_0 : decode prog_20_method_1_code 0 = .ok (.aload_n 0, 1) := by decide +kernel
theorem d2_1 : decode prog_20_method_1_code 1 = .ok (.invokespecial 1, 3) := by decide +kernel
theorem d2_4 : decode prog_20_method_1_code 4 = .ok (.aload_n 0, 1) := by decide +kernel
theorem d2_5 : decode prog_20_method_1_code 5 = .ok (.lload_n 1, 1) := by decide +kernel
theorem d2_6 : decode prog_20_method_1_code 6 = .ok (.putfield 7, 3) := by decide +kernel
theorem d2_9 : decode prog_20_method_1_code 9 = .ok (.return_, 1) := by decide +kernel
set_option maxRecDepth 65536 in
set_option maxHeartbeats 40000000 in
theorem rm2 (l : Launch) (Z : State) (a0 : Array Value) (hw : ∀ d ∈ tables_1, d.before a0 Z = true) (ws : List Jvm.Cond) (a1 : Addr) (s1 : Int64) (h0 : Heap) (n0 : Nat) (Z0 : n0 ≤ h0.size) (F : Fld Z h0 a1 "org/edgehead/bench/SplitMix" "state" "J" (.long 0)) (E : Exa Z h0 a1 "org/edgehead/bench/SplitMix") (ga : n0 ≤ a1) :
    MetFree l (⟨"org/edgehead/bench/SplitMix", "<init>", "(J)V"⟩ : MethodName) (head1 (Jvm.Cond.code (⟨"org/edgehead/bench/SplitMix", "<init>", "(J)V"⟩ : MethodName) prog_20_method_1_code 3 (none) :: ws) ({ frames := 1, cells := 0, slots := 0, locals := 12 } : Room)) (fun a U => a = #[(.ref a1), (.long s1)] ∧ Z.Warmed39 U.vm ∧ U.heap = h0) (fun _ _ _ _ _ => True) (fun _ U o U' => ∃ v L, o = .returned v ∧ QI Z a1 s1 h0 n0 v U'.heap L ∧ FrameEnd U o U' L ({ frames := 1, cells := 0, slots := 0, locals := 12 } : Room).cells ({ frames := 1, cells := 0, slots := 0, locals := 12 } : Room).slots) := by
  refine MetFree.of_bodySF (plainFor_of_name pn_org_edgehead_bench_SplitMix) hisR ?_
  intro p e s m args below meth c s₁ Bd hml0 hP hK
  obtain ⟨rfl, hZ, hh⟩ := hP
  have hx := Bd.exec
  have hby := Bd.bytes
  have hml : c.maxLocals = 3 := hml0
  have hown : s.vm.findClass "org/edgehead/bench/SplitMix" = some m.cls := findClass_of_methodNamed Bd.named
  have hnm := (name_of_methodNamed Bd.named Bd.method).1
  have X0 : Stand p l e ({ frames := 1, cells := 0, slots := 0, locals := 12 } : Room) s m #[(.ref a1), (.long s1)] below meth c s₁ [] 0 0 := Stand.of_body Bd
  have e0 : s₁.heap = h0 := by rw [← hh, Bd.state]; rfl
  have N0 := Fr.nil n0
  have pre0 : ∀ t, Steps p.tables e below (s₁.setTop (mkF m 0 #[.val (.ref a1), .val (.long s1), .second] [])) t → Steps p.tables e below (s₁.setTop (entryFrame m #[(.ref a1), (.long s1)] 3)) t := fun t k => castTop (ef_2 m a1 s1) k
  have q5 : ∀ t, Steps p.tables e below (s₁.setTop (mkF m 1 #[.val (.ref a1), .val (.long s1), .second] [(.ref a1)])) t → Steps p.tables e below (s₁.setTop (entryFrame m #[(.ref a1), (.long s1)] 3)) t := fun t k => pre0 t (by
      show Steps p.tables e below (s₁.setTop (mkF m 0 #[.val (.ref a1), .val (.long s1), .second] [])) _
      refine XS.aloadN X0.here hx rfl (hb hby d2_0) rfl rfl ?_
      show Steps p.tables e below (s₁.setTop (mkF m 1 #[.val (.ref a1), .val (.long s1), .second] [(.ref a1)])) _
      exact k)
  obtain ⟨T6, X6, e6, st6⟩ := initO X0 hx hZ hown (hw _ (List.mem_of_getElem? (i := 11) rfl)) (hw _ (List.mem_of_getElem? (i := 12) rfl)) (hw _ (List.mem_of_getElem? (i := 13) rfl)) e0 (g := (mkF m 1 #[.val (.ref a1), .val (.long s1), .second] [(.ref a1)])) rfl (by rw [hml]; rfl) rfl (hb hby d2_1) (by decide) (W := 0) (by show 2 * 0 + _ ≤ _; exact Nat.le_of_eq rfl) (by decide)
  have q7 : ∀ t, Steps p.tables e below (T6.setTop (mkF m 4 #[.val (.ref a1), .val (.long s1), .second] [])) t → Steps p.tables e below (s₁.setTop (entryFrame m #[(.ref a1), (.long s1)] 3)) t := fun t k => q5 t (st6 t k)
  have q8 : ∀ t, Steps p.tables e below (T6.setTop (mkF m 6 #[.val (.ref a1), .val (.long s1), .second] [(.long s1), (.ref a1)])) t → Steps p.tables e below (s₁.setTop (entryFrame m #[(.ref a1), (.long s1)] 3)) t := fun t k => q7 t (by
      show Steps p.tables e below (T6.setTop (mkF m 4 #[.val (.ref a1), .val (.long s1), .second] [])) _
      refine XS.aloadN X6.here hx rfl (hb hby d2_4) rfl rfl ?_
      show Steps p.tables e below (T6.setTop (mkF m 5 #[.val (.ref a1), .val (.long s1), .second] [(.ref a1)])) _
      refine XS.lloadN X6.here hx rfl (hb hby d2_5) rfl ?_
      show Steps p.tables e below (T6.setTop (mkF m 6 #[.val (.ref a1), .val (.long s1), .second] [(.long s1), (.ref a1)])) _
      exact k)
  obtain ⟨T9, h9, X9, e9, W9, st9⟩ := putF X6 hx hZ hown (host := "") (Or.inl (hw _ (List.mem_of_getElem? (i := 14) rfl))) Via.refl e6 (F) (E) (Or.inl (hw _ (List.mem_of_getElem? (i := 15) rfl))) (hw _ (List.mem_of_getElem? (i := 6) rfl)) (ty := .long) (by decide) rfl rfl (g := (mkF m 6 #[.val (.ref a1), .val (.long s1), .second] [(.long s1), (.ref a1)])) rfl rfl (hb hby d2_6)
  have N9 := Fr.snoc X9 N0 (ga)
  have q10 : ∀ t, Steps p.tables e below (T9.setTop (mkF m 9 #[.val (.ref a1), .val (.long s1), .second] [])) t → Steps p.tables e below (s₁.setTop (entryFrame m #[(.ref a1), (.long s1)] 3)) t := fun t k => q8 t (st9 t k)
  have Z9 : n0 ≤ h9.size := Nat.le_trans Z0 (Keep.of_wr W9).1
  obtain ⟨fs, hr, hrun, hended, hW, hsame⟩ := X9.leave (v := none) (fun _ => rfl)
  refine ⟨_, _, q10 _ ?_, hrun, hended, _, _, rfl, ?_, ⟨_, rfl⟩, hW, hsame.mono (by decide) (by decide)⟩
  · show Steps p.tables e below (T9.setTop (mkF m 9 #[.val (.ref a1), .val (.long s1), .second] [])) _
    exact X9.returnOut hx Bd.returns (hb hby d2_9) hr
  · show QI Z a1 s1 h0 n0 _ T9.heap _
    rw [e9]
    exact ⟨rfl, N9, (Keep.refl _ _).wr W9 (Or.inl (List.mem_of_getElem? (i := 0) rfl)), E.wr W9, F.same W9⟩
theorem ef_3 (m : MethodId) (a1 : Addr) : entryFrame m #[(.ref a1)] 3 = mkF m 0 #[.val (.ref a1), .unset, .unset] [] := by first | (simp [entryFrame, mkF, argsToLocals, Value.category]; done) | rfl
theorem d3_0 : decode prog_20_method_2_code 0 = .ok (.aload_n 0, 1) := by decide +kernel
theorem d3_1 : decode prog_20_method_2_code 1 = .ok (.dup, 1) := by decide +kernel
theorem d3_2 : decode prog_20_method_2_code 2 = .ok (.getfield 7, 3) := by decide +kernel
theorem d3_5 : decode prog_20_method_2_code 5 = .ok (.ldc2_w 13, 3) := by decide +kernel
theorem d3_8 : decode prog_20_method_2_code 8 = .ok (.ladd, 1) := by decide +kernel
theorem d3_9 : decode prog_20_method_2_code 9 = .ok (.dup2_x1, 1) := by decide +kernel
theorem d3_10 : decode prog_20_method_2_code 10 = .ok (.putfield 7, 3) := by decide +kernel
theorem d3_13 : decode prog_20_method_2_code 13 = .ok (.lstore_n 1, 1) := by decide +kernel
theorem d3_14 : decode prog_20_method_2_code 14 = .ok (.lload_n 1, 1) := by decide +kernel
theorem d3_15 : decode prog_20_method_2_code 15 = .ok (.lload_n 1, 1) := by decide +kernel
theorem d3_16 : decode prog_20_method_2_code 16 = .ok (.bipush 30, 2) := by decide +kernel
theorem d3_18 : decode prog_20_method_2_code 18 = .ok (.lushr, 1) := by decide +kernel
theorem d3_19 : decode prog_20_method_2_code 19 = .ok (.lxor, 1) := by decide +kernel
theorem d3_20 : decode prog_20_method_2_code 20 = .ok (.ldc2_w 15, 3) := by decide +kernel
theorem d3_23 : decode prog_20_method_2_code 23 = .ok (.lmul, 1) := by decide +kernel
theorem d3_24 : decode prog_20_method_2_code 24 = .ok (.lstore_n 1, 1) := by decide +kernel
theorem d3_25 : decode prog_20_method_2_code 25 = .ok (.lload_n 1, 1) := by decide +kernel
theorem d3_26 : decode prog_20_method_2_code 26 = .ok (.lload_n 1, 1) := by decide +kernel
theorem d3_27 : decode prog_20_method_2_code 27 = .ok (.bipush 27, 2) := by decide +kernel
theorem d3_29 : decode prog_20_method_2_code 29 = .ok (.lushr, 1) := by decide +kernel
theorem d3_30 : decode prog_20_method_2_code 30 = .ok (.lxor, 1) := by decide +kernel
theorem d3_31 : decode prog_20_method_2_code 31 = .ok (.ldc2_w 17, 3) := by decide +kernel
theorem d3_34 : decode prog_20_method_2_code 34 = .ok (.lmul, 1) := by decide +kernel
theorem d3_35 : decode prog_20_method_2_code 35 = .ok (.lstore_n 1, 1) := by decide +kernel
theorem d3_36 : decode prog_20_method_2_code 36 = .ok (.lload_n 1, 1) := by decide +kernel
theorem d3_37 : decode prog_20_method_2_code 37 = .ok (.lload_n 1, 1) := by decide +kernel
theorem d3_38 : decode prog_20_method_2_code 38 = .ok (.bipush 31, 2) := by decide +kernel
theorem d3_40 : decode prog_20_method_2_code 40 = .ok (.lushr, 1) := by decide +kernel
theorem d3_41 : decode prog_20_method_2_code 41 = .ok (.lxor, 1) := by decide +kernel
theorem d3_42 : decode prog_20_method_2_code 42 = .ok (.lreturn, 1) := by decide +kernel
def own_mix (z : Int64) : Int64 := (((((z ^^^ ((z.toUInt64 >>> ((30 : Int32) &&& 0x3f).toInt64.toUInt64).toInt64)) * (-4658895280553007687 : Int64)) ^^^ ((((z ^^^ ((z.toUInt64 >>> ((30 : Int32) &&& 0x3f).toInt64.toUInt64).toInt64)) * (-4658895280553007687 : Int64)).toUInt64 >>> ((27 : Int32) &&& 0x3f).toInt64.toUInt64).toInt64)) * (-7723592293110705685 : Int64)) ^^^ ((((((z ^^^ ((z.toUInt64 >>> ((30 : Int32) &&& 0x3f).toInt64.toUInt64).toInt64)) * (-4658895280553007687 : Int64)) ^^^ ((((z ^^^ ((z.toUInt64 >>> ((30 : Int32) &&& 0x3f).toInt64.toUInt64).toInt64)) * (-4658895280553007687 : Int64)).toUInt64 >>> ((27 : Int32) &&& 0x3f).toInt64.toUInt64).toInt64)) * (-7723592293110705685 : Int64)).toUInt64 >>> ((31 : Int32) &&& 0x3f).toInt64.toUInt64).toInt64))
set_option maxRecDepth 65536 in
set_option maxHeartbeats 40000000 in
theorem rm3 (l : Launch) (Z : State) (a0 : Array Value) (hw : ∀ d ∈ tables_1, d.before a0 Z = true) (ws : List Jvm.Cond) (a1 : Addr) (s1 : Int64) (h0 : Heap) (n0 : Nat) (Z0 : n0 ≤ h0.size) (F : Fld Z h0 a1 "org/edgehead/bench/SplitMix" "state" "J" (.long s1)) (E : Exa Z h0 a1 "org/edgehead/bench/SplitMix") (ga : n0 ≤ a1) :
    MetFree l (⟨"org/edgehead/bench/SplitMix", "nextLong", "()J"⟩ : MethodName) (head1 (Jvm.Cond.code (⟨"org/edgehead/bench/SplitMix", "nextLong", "()J"⟩ : MethodName) prog_20_method_2_code 3 (some .long) :: ws) ({ frames := 0, cells := 0, slots := 0, locals := 0 } : Room)) (fun a U => a = #[(.ref a1)] ∧ Z.Warmed39 U.vm ∧ U.heap = h0) (fun _ _ _ _ _ => True) (fun _ U o U' => ∃ v L, o = .returned v ∧ QJ Z a1 (own_mix (own_g s1)) (own_g s1) h0 n0 v U'.heap L ∧ FrameEnd U o U' L ({ frames := 0, cells := 0, slots := 0, locals := 0 } : Room).cells ({ frames := 0, cells := 0, slots := 0, locals := 0 } : Room).slots) := by
  refine MetFree.of_bodySF (plainFor_of_name pn_org_edgehead_bench_SplitMix) hisR ?_
  intro p e s m args below meth c s₁ Bd hml0 hP hK
  obtain ⟨rfl, hZ, hh⟩ := hP
  have hx := Bd.exec
  have hby := Bd.bytes
  have hml : c.maxLocals = 3 := hml0
  have hown : s.vm.findClass "org/edgehead/bench/SplitMix" = some m.cls := findClass_of_methodNamed Bd.named
  have hnm := (name_of_methodNamed Bd.named Bd.method).1
  have X0 : Stand p l e ({ frames := 0, cells := 0, slots := 0, locals := 0 } : Room) s m #[(.ref a1)] below meth c s₁ [] 0 0 := Stand.of_body Bd
  have e0 : s₁.heap = h0 := by rw [← hh, Bd.state]; rfl
  have N0 := Fr.nil n0
  have pre0 : ∀ t, Steps p.tables e below (s₁.setTop (mkF m 0 #[.val (.ref a1), .unset, .unset] [])) t → Steps p.tables e below (s₁.setTop (entryFrame m #[(.ref a1)] 3)) t := fun t k => castTop (ef_3 m a1) k
  have q11 : ∀ t, Steps p.tables e below (s₁.setTop (mkF m 2 #[.val (.ref a1), .unset, .unset] [(.ref a1), (.ref a1)])) t → Steps p.tables e below (s₁.setTop (entryFrame m #[(.ref a1)] 3)) t := fun t k => pre0 t (by
      show Steps p.tables e below (s₁.setTop (mkF m 0 #[.val (.ref a1), .unset, .unset] [])) _
      refine XS.aloadN X0.here hx rfl (hb hby d3_0) rfl rfl ?_
      show Steps p.tables e below (s₁.setTop (mkF m 1 #[.val (.ref a1), .unset, .unset] [(.ref a1)])) _
      refine XS.dup X0.here hx rfl (hb hby d3_1) rfl rfl ?_
      show Steps p.tables e below (s₁.setTop (mkF m 2 #[.val (.ref a1), .unset, .unset] [(.ref a1), (.ref a1)])) _
      exact k)
  obtain ⟨T12, X12, e12, st12⟩ := getF X0 hx hZ hown (host := "") (Or.inl (hw _ (List.mem_of_getElem? (i := 14) rfl))) Via.refl e0 (F) (g := (mkF m 2 #[.val (.ref a1), .unset, .unset] [(.ref a1), (.ref a1)])) rfl rfl (hb hby d3_2)
  have q13 : ∀ t, Steps p.tables e below (T12.setTop (mkF m 5 #[.val (.ref a1), .unset, .unset] [(.long s1), (.ref a1)])) t → Steps p.tables e below (s₁.setTop (entryFrame m #[(.ref a1)] 3)) t := fun t k => q11 t (st12 t k)
  have q14 : ∀ t, Steps p.tables e below (T12.setTop (mkF m 10 #[.val (.ref a1), .unset, .unset] [(.long (s1 + (-7046029254386353131 : Int64))), (.ref a1), (.long (s1 + (-7046029254386353131 : Int64)))])) t → Steps p.tables e below (s₁.setTop (entryFrame m #[(.ref a1)] 3)) t := fun t k => q13 t (by
      show Steps p.tables e below (T12.setTop (mkF m 5 #[.val (.ref a1), .unset, .unset] [(.long s1), (.ref a1)])) _
      refine Jvm.Stand.ldc2J X12 hx hown (mvT hZ (hw _ (List.mem_of_getElem? (i := 21) rfl))) rfl (hb hby d3_5) ?_
      show Steps p.tables e below (T12.setTop (mkF m 8 #[.val (.ref a1), .unset, .unset] [(.long (-7046029254386353131 : Int64)), (.long s1), (.ref a1)])) _
      refine XS.ladd X12.here hx rfl (hb hby d3_8) rfl ?_
      show Steps p.tables e below (T12.setTop (mkF m 9 #[.val (.ref a1), .unset, .unset] [(.long (s1 + (-7046029254386353131 : Int64))), (.ref a1)])) _
      refine own_dup2x1 X12.here hx rfl (hb hby d3_9) rfl rfl ?_
      show Steps p.tables e below (T12.setTop (mkF m 10 #[.val (.ref a1), .unset, .unset] [(.long (s1 + (-7046029254386353131 : Int64))), (.ref a1), (.long (s1 + (-7046029254386353131 : Int64)))])) _
      exact k)
  obtain ⟨T15, h15, X15, e15, W15, st15⟩ := putF X12 hx hZ hown (host := "") (Or.inl (hw _ (List.mem_of_getElem? (i := 14) rfl))) Via.refl e12 (F) (E) (Or.inl (hw _ (List.mem_of_getElem? (i := 15) rfl))) (hw _ (List.mem_of_getElem? (i := 6) rfl)) (ty := .long) (by decide) rfl rfl (g := (mkF m 10 #[.val (.ref a1), .unset, .unset] [(.long (s1 + (-7046029254386353131 : Int64))), (.ref a1), (.long (s1 + (-7046029254386353131 : Int64)))])) rfl rfl (hb hby d3_10)
  have N15 := Fr.snoc X15 N0 (ga)
  have q16 : ∀ t, Steps p.tables e below (T15.setTop (mkF m 13 #[.val (.ref a1), .unset, .unset] [(.long (s1 + (-7046029254386353131 : Int64)))])) t → Steps p.tables e below (s₁.setTop (entryFrame m #[(.ref a1)] 3)) t := fun t k => q14 t (st15 t k)
  have Z15 : n0 ≤ h15.size := Nat.le_trans Z0 (Keep.of_wr W15).1
  have q17 : ∀ t, Steps p.tables e below (T15.setTop (mkF m 42 #[.val (.ref a1), .val (.long (((((s1 + (-7046029254386353131 : Int64)) ^^^ (((s1 + (-7046029254386353131 : Int64)).toUInt64 >>> ((30 : Int32) &&& 0x3f).toInt64.toUInt64).toInt64)) * (-4658895280553007687 : Int64)) ^^^ (((((s1 + (-7046029254386353131 : Int64)) ^^^ (((s1 + (-7046029254386353131 : Int64)).toUInt64 >>> ((30 : Int32) &&& 0x3f).toInt64.toUInt64).toInt64)) * (-4658895280553007687 : Int64)).toUInt64 >>> ((27 : Int32) &&& 0x3f).toInt64.toUInt64).toInt64)) * (-7723592293110705685 : Int64))), .second] [(.long ((((((s1 + (-7046029254386353131 : Int64)) ^^^ (((s1 + (-7046029254386353131 : Int64)).toUInt64 >>> ((30 : Int32) &&& 0x3f).toInt64.toUInt64).toInt64)) * (-4658895280553007687 : Int64)) ^^^ (((((s1 + (-7046029254386353131 : Int64)) ^^^ (((s1 + (-7046029254386353131 : Int64)).toUInt64 >>> ((30 : Int32) &&& 0x3f).toInt64.toUInt64).toInt64)) * (-4658895280553007687 : Int64)).toUInt64 >>> ((27 : Int32) &&& 0x3f).toInt64.toUInt64).toInt64)) * (-7723592293110705685 : Int64)) ^^^ (((((((s1 + (-7046029254386353131 : Int64)) ^^^ (((s1 + (-7046029254386353131 : Int64)).toUInt64 >>> ((30 : Int32) &&& 0x3f).toInt64.toUInt64).toInt64)) * (-4658895280553007687 : Int64)) ^^^ (((((s1 + (-7046029254386353131 : Int64)) ^^^ (((s1 + (-7046029254386353131 : Int64)).toUInt64 >>> ((30 : Int32) &&& 0x3f).toInt64.toUInt64).toInt64)) * (-4658895280553007687 : Int64)).toUInt64 >>> ((27 : Int32) &&& 0x3f).toInt64.toUInt64).toInt64)) * (-7723592293110705685 : Int64)).toUInt64 >>> ((31 : Int32) &&& 0x3f).toInt64.toUInt64).toInt64)))])) t → Steps p.tables e below (s₁.setTop (entryFrame m #[(.ref a1)] 3)) t := fun t k => q16 t (by
      show Steps p.tables e below (T15.setTop (mkF m 13 #[.val (.ref a1), .unset, .unset] [(.long (s1 + (-7046029254386353131 : Int64)))])) _
      refine XS.lstoreN X15.here hx rfl (hb hby d3_13) rfl (l' := #[.val (.ref a1), .val (.long (s1 + (-7046029254386353131 : Int64))), .second]) rfl ?_
      show Steps p.tables e below (T15.setTop (mkF m 14 #[.val (.ref a1), .val (.long (s1 + (-7046029254386353131 : Int64))), .second] [])) _
      refine XS.lloadN X15.here hx rfl (hb hby d3_14) rfl ?_
      show Steps p.tables e below (T15.setTop (mkF m 15 #[.val (.ref a1), .val (.long (s1 + (-7046029254386353131 : Int64))), .second] [(.long (s1 + (-7046029254386353131 : Int64)))])) _
      refine XS.lloadN X15.here hx rfl (hb hby d3_15) rfl ?_
      show Steps p.tables e below (T15.setTop (mkF m 16 #[.val (.ref a1), .val (.long (s1 + (-7046029254386353131 : Int64))), .second] [(.long (s1 + (-7046029254386353131 : Int64))), (.long (s1 + (-7046029254386353131 : Int64)))])) _
      refine XS.bipush X15.here hx rfl (hb hby d3_16) ?_
      show Steps p.tables e below (T15.setTop (mkF m 18 #[.val (.ref a1), .val (.long (s1 + (-7046029254386353131 : Int64))), .second] [(.int (30 : Int32)), (.long (s1 + (-7046029254386353131 : Int64))), (.long (s1 + (-7046029254386353131 : Int64)))])) _
      refine XS.lushr X15.here hx rfl (hb hby d3_18) rfl ?_
      show Steps p.tables e below (T15.setTop (mkF m 19 #[.val (.ref a1), .val (.long (s1 + (-7046029254386353131 : Int64))), .second] [(.long (((s1 + (-7046029254386353131 : Int64)).toUInt64 >>> ((30 : Int32) &&& 0x3f).toInt64.toUInt64).toInt64)), (.long (s1 + (-7046029254386353131 : Int64)))])) _
      refine XS.lxor X15.here hx rfl (hb hby d3_19) rfl ?_
      show Steps p.tables e below (T15.setTop (mkF m 20 #[.val (.ref a1), .val (.long (s1 + (-7046029254386353131 : Int64))), .second] [(.long ((s1 + (-7046029254386353131 : Int64)) ^^^ (((s1 + (-7046029254386353131 : Int64)).toUInt64 >>> ((30 : Int32) &&& 0x3f).toInt64.toUInt64).toInt64)))])) _
      refine Jvm.Stand.ldc2J X15 hx hown (mvT hZ (hw _ (List.mem_of_getElem? (i := 22) rfl))) rfl (hb hby d3_20) ?_
      show Steps p.tables e below (T15.setTop (mkF m 23 #[.val (.ref a1), .val (.long (s1 + (-7046029254386353131 : Int64))), .second] [(.long (-4658895280553007687 : Int64)), (.long ((s1 + (-7046029254386353131 : Int64)) ^^^ (((s1 + (-7046029254386353131 : Int64)).toUInt64 >>> ((30 : Int32) &&& 0x3f).toInt64.toUInt64).toInt64)))])) _
      refine XS.lmul X15.here hx rfl (hb hby d3_23) rfl ?_
      show Steps p.tables e below (T15.setTop (mkF m 24 #[.val (.ref a1), .val (.long (s1 + (-7046029254386353131 : Int64))), .second] [(.long (((s1 + (-7046029254386353131 : Int64)) ^^^ (((s1 + (-7046029254386353131 : Int64)).toUInt64 >>> ((30 : Int32) &&& 0x3f).toInt64.toUInt64).toInt64)) * (-4658895280553007687 : Int64)))])) _
      refine XS.lstoreN X15.here hx rfl (hb hby d3_24) rfl (l' := #[.val (.ref a1), .val (.long (((s1 + (-7046029254386353131 : Int64)) ^^^ (((s1 + (-7046029254386353131 : Int64)).toUInt64 >>> ((30 : Int32) &&& 0x3f).toInt64.toUInt64).toInt64)) * (-4658895280553007687 : Int64))), .second]) rfl ?_
      show Steps p.tables e below (T15.setTop (mkF m 25 #[.val (.ref a1), .val (.long (((s1 + (-7046029254386353131 : Int64)) ^^^ (((s1 + (-7046029254386353131 : Int64)).toUInt64 >>> ((30 : Int32) &&& 0x3f).toInt64.toUInt64).toInt64)) * (-4658895280553007687 : Int64))), .second] [])) _
      refine XS.lloadN X15.here hx rfl (hb hby d3_25) rfl ?_
      show Steps p.tables e below (T15.setTop (mkF m 26 #[.val (.ref a1), .val (.long (((s1 + (-7046029254386353131 : Int64)) ^^^ (((s1 + (-7046029254386353131 : Int64)).toUInt64 >>> ((30 : Int32) &&& 0x3f).toInt64.toUInt64).toInt64)) * (-4658895280553007687 : Int64))), .second] [(.long (((s1 + (-7046029254386353131 : Int64)) ^^^ (((s1 + (-7046029254386353131 : Int64)).toUInt64 >>> ((30 : Int32) &&& 0x3f).toInt64.toUInt64).toInt64)) * (-4658895280553007687 : Int64)))])) _
      refine XS.lloadN X15.here hx rfl (hb hby d3_26) rfl ?_
      show Steps p.tables e below (T15.setTop (mkF m 27 #[.val (.ref a1), .val (.long (((s1 + (-7046029254386353131 : Int64)) ^^^ (((s1 + (-7046029254386353131 : Int64)).toUInt64 >>> ((30 : Int32) &&& 0x3f).toInt64.toUInt64).toInt64)) * (-4658895280553007687 : Int64))), .second] [(.long (((s1 + (-7046029254386353131 : Int64)) ^^^ (((s1 + (-7046029254386353131 : Int64)).toUInt64 >>> ((30 : Int32) &&& 0x3f).toInt64.toUInt64).toInt64)) * (-4658895280553007687 : Int64))), (.long (((s1 + (-7046029254386353131 : Int64)) ^^^ (((s1 + (-7046029254386353131 : Int64)).toUInt64 >>> ((30 : Int32) &&& 0x3f).toInt64.toUInt64).toInt64)) * (-4658895280553007687 : Int64)))])) _
      refine XS.bipush X15.here hx rfl (hb hby d3_27) ?_
      show Steps p.tables e below (T15.setTop (mkF m 29 #[.val (.ref a1), .val (.long (((s1 + (-7046029254386353131 : Int64)) ^^^ (((s1 + (-7046029254386353131 : Int64)).toUInt64 >>> ((30 : Int32) &&& 0x3f).toInt64.toUInt64).toInt64)) * (-4658895280553007687 : Int64))), .second] [(.int (27 : Int32)), (.long (((s1 + (-7046029254386353131 : Int64)) ^^^ (((s1 + (-7046029254386353131 : Int64)).toUInt64 >>> ((30 : Int32) &&& 0x3f).toInt64.toUInt64).toInt64)) * (-4658895280553007687 : Int64))), (.long (((s1 + (-7046029254386353131 : Int64)) ^^^ (((s1 + (-7046029254386353131 : Int64)).toUInt64 >>> ((30 : Int32) &&& 0x3f).toInt64.toUInt64).toInt64)) * (-4658895280553007687 : Int64)))])) _
      refine XS.lushr X15.here hx rfl (hb hby d3_29) rfl ?_
      show Steps p.tables e below (T15.setTop (mkF m 30 #[.val (.ref a1), .val (.long (((s1 + (-7046029254386353131 : Int64)) ^^^ (((s1 + (-7046029254386353131 : Int64)).toUInt64 >>> ((30 : Int32) &&& 0x3f).toInt64.toUInt64).toInt64)) * (-4658895280553007687 : Int64))), .second] [(.long (((((s1 + (-7046029254386353131 : Int64)) ^^^ (((s1 + (-7046029254386353131 : Int64)).toUInt64 >>> ((30 : Int32) &&& 0x3f).toInt64.toUInt64).toInt64)) * (-4658895280553007687 : Int64)).toUInt64 >>> ((27 : Int32) &&& 0x3f).toInt64.toUInt64).toInt64)), (.long (((s1 + (-7046029254386353131 : Int64)) ^^^ (((s1 + (-7046029254386353131 : Int64)).toUInt64 >>> ((30 : Int32) &&& 0x3f).toInt64.toUInt64).toInt64)) * (-4658895280553007687 : Int64)))])) _
      refine XS.lxor X15.here hx rfl (hb hby d3_30) rfl ?_
      show Steps p.tables e below (T15.setTop (mkF m 31 #[.val (.ref a1), .val (.long (((s1 + (-7046029254386353131 : Int64)) ^^^ (((s1 + (-7046029254386353131 : Int64)).toUInt64 >>> ((30 : Int32) &&& 0x3f).toInt64.toUInt64).toInt64)) * (-4658895280553007687 : Int64))), .second] [(.long ((((s1 + (-7046029254386353131 : Int64)) ^^^ (((s1 + (-7046029254386353131 : Int64)).toUInt64 >>> ((30 : Int32) &&& 0x3f).toInt64.toUInt64).toInt64)) * (-4658895280553007687 : Int64)) ^^^ (((((s1 + (-7046029254386353131 : Int64)) ^^^ (((s1 + (-7046029254386353131 : Int64)).toUInt64 >>> ((30 : Int32) &&& 0x3f).toInt64.toUInt64).toInt64)) * (-4658895280553007687 : Int64)).toUInt64 >>> ((27 : Int32) &&& 0x3f).toInt64.toUInt64).toInt64)))])) _
      refine Jvm.Stand.ldc2J X15 hx hown (mvT hZ (hw _ (List.mem_of_getElem? (i := 23) rfl))) rfl (hb hby d3_31) ?_
      show Steps p.tables e below (T15.setTop (mkF m 34 #[.val (.ref a1), .val (.long (((s1 + (-7046029254386353131 : Int64)) ^^^ (((s1 + (-7046029254386353131 : Int64)).toUInt64 >>> ((30 : Int32) &&& 0x3f).toInt64.toUInt64).toInt64)) * (-4658895280553007687 : Int64))), .second] [(.long (-7723592293110705685 : Int64)), (.long ((((s1 + (-7046029254386353131 : Int64)) ^^^ (((s1 + (-7046029254386353131 : Int64)).toUInt64 >>> ((30 : Int32) &&& 0x3f).toInt64.toUInt64).toInt64)) * (-4658895280553007687 : Int64)) ^^^ (((((s1 + (-7046029254386353131 : Int64)) ^^^ (((s1 + (-7046029254386353131 : Int64)).toUInt64 >>> ((30 : Int32) &&& 0x3f).toInt64.toUInt64).toInt64)) * (-4658895280553007687 : Int64)).toUInt64 >>> ((27 : Int32) &&& 0x3f).toInt64.toUInt64).toInt64)))])) _
      refine XS.lmul X15.here hx rfl (hb hby d3_34) rfl ?_
      show Steps p.tables e below (T15.setTop (mkF m 35 #[.val (.ref a1), .val (.long (((s1 + (-7046029254386353131 : Int64)) ^^^ (((s1 + (-7046029254386353131 : Int64)).toUInt64 >>> ((30 : Int32) &&& 0x3f).toInt64.toUInt64).toInt64)) * (-4658895280553007687 : Int64))), .second] [(.long (((((s1 + (-7046029254386353131 : Int64)) ^^^ (((s1 + (-7046029254386353131 : Int64)).toUInt64 >>> ((30 : Int32) &&& 0x3f).toInt64.toUInt64).toInt64)) * (-4658895280553007687 : Int64)) ^^^ (((((s1 + (-7046029254386353131 : Int64)) ^^^ (((s1 + (-7046029254386353131 : Int64)).toUInt64 >>> ((30 : Int32) &&& 0x3f).toInt64.toUInt64).toInt64)) * (-4658895280553007687 : Int64)).toUInt64 >>> ((27 : Int32) &&& 0x3f).toInt64.toUInt64).toInt64)) * (-7723592293110705685 : Int64)))])) _
      refine XS.lstoreN X15.here hx rfl (hb hby d3_35) rfl (l' := #[.val (.ref a1), .val (.long (((((s1 + (-7046029254386353131 : Int64)) ^^^ (((s1 + (-7046029254386353131 : Int64)).toUInt64 >>> ((30 : Int32) &&& 0x3f).toInt64.toUInt64).toInt64)) * (-4658895280553007687 : Int64)) ^^^ (((((s1 + (-7046029254386353131 : Int64)) ^^^ (((s1 + (-7046029254386353131 : Int64)).toUInt64 >>> ((30 : Int32) &&& 0x3f).toInt64.toUInt64).toInt64)) * (-4658895280553007687 : Int64)).toUInt64 >>> ((27 : Int32) &&& 0x3f).toInt64.toUInt64).toInt64)) * (-7723592293110705685 : Int64))), .second]) rfl ?_
      show Steps p.tables e below (T15.setTop (mkF m 36 #[.val (.ref a1), .val (.long (((((s1 + (-7046029254386353131 : Int64)) ^^^ (((s1 + (-7046029254386353131 : Int64)).toUInt64 >>> ((30 : Int32) &&& 0x3f).toInt64.toUInt64).toInt64)) * (-4658895280553007687 : Int64)) ^^^ (((((s1 + (-7046029254386353131 : Int64)) ^^^ (((s1 + (-7046029254386353131 : Int64)).toUInt64 >>> ((30 : Int32) &&& 0x3f).toInt64.toUInt64).toInt64)) * (-4658895280553007687 : Int64)).toUInt64 >>> ((27 : Int32) &&& 0x3f).toInt64.toUInt64).toInt64)) * (-7723592293110705685 : Int64))), .second] [])) _
      refine XS.lloadN X15.here hx rfl (hb hby d3_36) rfl ?_
      show Steps p.tables e below (T15.setTop (mkF m 37 #[.val (.ref a1), .val (.long (((((s1 + (-7046029254386353131 : Int64)) ^^^ (((s1 + (-7046029254386353131 : Int64)).toUInt64 >>> ((30 : Int32) &&& 0x3f).toInt64.toUInt64).toInt64)) * (-4658895280553007687 : Int64)) ^^^ (((((s1 + (-7046029254386353131 : Int64)) ^^^ (((s1 + (-7046029254386353131 : Int64)).toUInt64 >>> ((30 : Int32) &&& 0x3f).toInt64.toUInt64).toInt64)) * (-4658895280553007687 : Int64)).toUInt64 >>> ((27 : Int32) &&& 0x3f).toInt64.toUInt64).toInt64)) * (-7723592293110705685 : Int64))), .second] [(.long (((((s1 + (-7046029254386353131 : Int64)) ^^^ (((s1 + (-7046029254386353131 : Int64)).toUInt64 >>> ((30 : Int32) &&& 0x3f).toInt64.toUInt64).toInt64)) * (-4658895280553007687 : Int64)) ^^^ (((((s1 + (-7046029254386353131 : Int64)) ^^^ (((s1 + (-7046029254386353131 : Int64)).toUInt64 >>> ((30 : Int32) &&& 0x3f).toInt64.toUInt64).toInt64)) * (-4658895280553007687 : Int64)).toUInt64 >>> ((27 : Int32) &&& 0x3f).toInt64.toUInt64).toInt64)) * (-7723592293110705685 : Int64)))])) _
      refine XS.lloadN X15.here hx rfl (hb hby d3_37) rfl ?_
      show Steps p.tables e below (T15.setTop (mkF m 38 #[.val (.ref a1), .val (.long (((((s1 + (-7046029254386353131 : Int64)) ^^^ (((s1 + (-7046029254386353131 : Int64)).toUInt64 >>> ((30 : Int32) &&& 0x3f).toInt64.toUInt64).toInt64)) * (-4658895280553007687 : Int64)) ^^^ (((((s1 + (-7046029254386353131 : Int64)) ^^^ (((s1 + (-7046029254386353131 : Int64)).toUInt64 >>> ((30 : Int32) &&& 0x3f).toInt64.toUInt64).toInt64)) * (-4658895280553007687 : Int64)).toUInt64 >>> ((27 : Int32) &&& 0x3f).toInt64.toUInt64).toInt64)) * (-7723592293110705685 : Int64))), .second] [(.long (((((s1 + (-7046029254386353131 : Int64)) ^^^ (((s1 + (-7046029254386353131 : Int64)).toUInt64 >>> ((30 : Int32) &&& 0x3f).toInt64.toUInt64).toInt64)) * (-4658895280553007687 : Int64)) ^^^ (((((s1 + (-7046029254386353131 : Int64)) ^^^ (((s1 + (-7046029254386353131 : Int64)).toUInt64 >>> ((30 : Int32) &&& 0x3f).toInt64.toUInt64).toInt64)) * (-4658895280553007687 : Int64)).toUInt64 >>> ((27 : Int32) &&& 0x3f).toInt64.toUInt64).toInt64)) * (-7723592293110705685 : Int64))), (.long (((((s1 + (-7046029254386353131 : Int64)) ^^^ (((s1 + (-7046029254386353131 : Int64)).toUInt64 >>> ((30 : Int32) &&& 0x3f).toInt64.toUInt64).toInt64)) * (-4658895280553007687 : Int64)) ^^^ (((((s1 + (-7046029254386353131 : Int64)) ^^^ (((s1 + (-7046029254386353131 : Int64)).toUInt64 >>> ((30 : Int32) &&& 0x3f).toInt64.toUInt64).toInt64)) * (-4658895280553007687 : Int64)).toUInt64 >>> ((27 : Int32) &&& 0x3f).toInt64.toUInt64).toInt64)) * (-7723592293110705685 : Int64)))])) _
      refine XS.bipush X15.here hx rfl (hb hby d3_38) ?_
      show Steps p.tables e below (T15.setTop (mkF m 40 #[.val (.ref a1), .val (.long (((((s1 + (-7046029254386353131 : Int64)) ^^^ (((s1 + (-7046029254386353131 : Int64)).toUInt64 >>> ((30 : Int32) &&& 0x3f).toInt64.toUInt64).toInt64)) * (-4658895280553007687 : Int64)) ^^^ (((((s1 + (-7046029254386353131 : Int64)) ^^^ (((s1 + (-7046029254386353131 : Int64)).toUInt64 >>> ((30 : Int32) &&& 0x3f).toInt64.toUInt64).toInt64)) * (-4658895280553007687 : Int64)).toUInt64 >>> ((27 : Int32) &&& 0x3f).toInt64.toUInt64).toInt64)) * (-7723592293110705685 : Int64))), .second] [(.int (31 : Int32)), (.long (((((s1 + (-7046029254386353131 : Int64)) ^^^ (((s1 + (-7046029254386353131 : Int64)).toUInt64 >>> ((30 : Int32) &&& 0x3f).toInt64.toUInt64).toInt64)) * (-4658895280553007687 : Int64)) ^^^ (((((s1 + (-7046029254386353131 : Int64)) ^^^ (((s1 + (-7046029254386353131 : Int64)).toUInt64 >>> ((30 : Int32) &&& 0x3f).toInt64.toUInt64).toInt64)) * (-4658895280553007687 : Int64)).toUInt64 >>> ((27 : Int32) &&& 0x3f).toInt64.toUInt64).toInt64)) * (-7723592293110705685 : Int64))), (.long (((((s1 + (-7046029254386353131 : Int64)) ^^^ (((s1 + (-7046029254386353131 : Int64)).toUInt64 >>> ((30 : Int32) &&& 0x3f).toInt64.toUInt64).toInt64)) * (-4658895280553007687 : Int64)) ^^^ (((((s1 + (-7046029254386353131 : Int64)) ^^^ (((s1 + (-7046029254386353131 : Int64)).toUInt64 >>> ((30 : Int32) &&& 0x3f).toInt64.toUInt64).toInt64)) * (-4658895280553007687 : Int64)).toUInt64 >>> ((27 : Int32) &&& 0x3f).toInt64.toUInt64).toInt64)) * (-7723592293110705685 : Int64)))])) _
      refine XS.lushr X15.here hx rfl (hb hby d3_40) rfl ?_
      show Steps p.tables e below (T15.setTop (mkF m 41 #[.val (.ref a1), .val (.long (((((s1 + (-7046029254386353131 : Int64)) ^^^ (((s1 + (-7046029254386353131 : Int64)).toUInt64 >>> ((30 : Int32) &&& 0x3f).toInt64.toUInt64).toInt64)) * (-4658895280553007687 : Int64)) ^^^ (((((s1 + (-7046029254386353131 : Int64)) ^^^ (((s1 + (-7046029254386353131 : Int64)).toUInt64 >>> ((30 : Int32) &&& 0x3f).toInt64.toUInt64).toInt64)) * (-4658895280553007687 : Int64)).toUInt64 >>> ((27 : Int32) &&& 0x3f).toInt64.toUInt64).toInt64)) * (-7723592293110705685 : Int64))), .second] [(.long (((((((s1 + (-7046029254386353131 : Int64)) ^^^ (((s1 + (-7046029254386353131 : Int64)).toUInt64 >>> ((30 : Int32) &&& 0x3f).toInt64.toUInt64).toInt64)) * (-4658895280553007687 : Int64)) ^^^ (((((s1 + (-7046029254386353131 : Int64)) ^^^ (((s1 + (-7046029254386353131 : Int64)).toUInt64 >>> ((30 : Int32) &&& 0x3f).toInt64.toUInt64).toInt64)) * (-4658895280553007687 : Int64)).toUInt64 >>> ((27 : Int32) &&& 0x3f).toInt64.toUInt64).toInt64)) * (-7723592293110705685 : Int64)).toUInt64 >>> ((31 : Int32) &&& 0x3f).toInt64.toUInt64).toInt64)), (.long (((((s1 + (-7046029254386353131 : Int64)) ^^^ (((s1 + (-7046029254386353131 : Int64)).toUInt64 >>> ((30 : Int32) &&& 0x3f).toInt64.toUInt64).toInt64)) * (-4658895280553007687 : Int64)) ^^^ (((((s1 + (-7046029254386353131 : Int64)) ^^^ (((s1 + (-7046029254386353131 : Int64)).toUInt64 >>> ((30 : Int32) &&& 0x3f).toInt64.toUInt64).toInt64)) * (-4658895280553007687 : Int64)).toUInt64 >>> ((27 : Int32) &&& 0x3f).toInt64.toUInt64).toInt64)) * (-7723592293110705685 : Int64)))])) _
      refine XS.lxor X15.here hx rfl (hb hby d3_41) rfl ?_
      show Steps p.tables e below (T15.setTop (mkF m 42 #[.val (.ref a1), .val (.long (((((s1 + (-7046029254386353131 : Int64)) ^^^ (((s1 + (-7046029254386353131 : Int64)).toUInt64 >>> ((30 : Int32) &&& 0x3f).toInt64.toUInt64).toInt64)) * (-4658895280553007687 : Int64)) ^^^ (((((s1 + (-7046029254386353131 : Int64)) ^^^ (((s1 + (-7046029254386353131 : Int64)).toUInt64 >>> ((30 : Int32) &&& 0x3f).toInt64.toUInt64).toInt64)) * (-4658895280553007687 : Int64)).toUInt64 >>> ((27 : Int32) &&& 0x3f).toInt64.toUInt64).toInt64)) * (-7723592293110705685 : Int64))), .second] [(.long ((((((s1 + (-7046029254386353131 : Int64)) ^^^ (((s1 + (-7046029254386353131 : Int64)).toUInt64 >>> ((30 : Int32) &&& 0x3f).toInt64.toUInt64).toInt64)) * (-4658895280553007687 : Int64)) ^^^ (((((s1 + (-7046029254386353131 : Int64)) ^^^ (((s1 + (-7046029254386353131 : Int64)).toUInt64 >>> ((30 : Int32) &&& 0x3f).toInt64.toUInt64).toInt64)) * (-4658895280553007687 : Int64)).toUInt64 >>> ((27 : Int32) &&& 0x3f).toInt64.toUInt64).toInt64)) * (-7723592293110705685 : Int64)) ^^^ (((((((s1 + (-7046029254386353131 : Int64)) ^^^ (((s1 + (-7046029254386353131 : Int64)).toUInt64 >>> ((30 : Int32) &&& 0x3f).toInt64.toUInt64).toInt64)) * (-4658895280553007687 : Int64)) ^^^ (((((s1 + (-7046029254386353131 : Int64)) ^^^ (((s1 + (-7046029254386353131 : Int64)).toUInt64 >>> ((30 : Int32) &&& 0x3f).toInt64.toUInt64).toInt64)) * (-4658895280553007687 : Int64)).toUInt64 >>> ((27 : Int32) &&& 0x3f).toInt64.toUInt64).toInt64)) * (-7723592293110705685 : Int64)).toUInt64 >>> ((31 : Int32) &&& 0x3f).toInt64.toUInt64).toInt64)))])) _
      exact k)
  obtain ⟨fs, hr, hrun, hended, hW, hsame⟩ := X15.leave (v := some (.long ((((((s1 + (-7046029254386353131 : Int64)) ^^^ (((s1 + (-7046029254386353131 : Int64)).toUInt64 >>> ((30 : Int32) &&& 0x3f).toInt64.toUInt64).toInt64)) * (-4658895280553007687 : Int64)) ^^^ (((((s1 + (-7046029254386353131 : Int64)) ^^^ (((s1 + (-7046029254386353131 : Int64)).toUInt64 >>> ((30 : Int32) &&& 0x3f).toInt64.toUInt64).toInt64)) * (-4658895280553007687 : Int64)).toUInt64 >>> ((27 : Int32) &&& 0x3f).toInt64.toUInt64).toInt64)) * (-7723592293110705685 : Int64)) ^^^ (((((((s1 + (-7046029254386353131 : Int64)) ^^^ (((s1 + (-7046029254386353131 : Int64)).toUInt64 >>> ((30 : Int32) &&& 0x3f).toInt64.toUInt64).toInt64)) * (-4658895280553007687 : Int64)) ^^^ (((((s1 + (-7046029254386353131 : Int64)) ^^^ (((s1 + (-7046029254386353131 : Int64)).toUInt64 >>> ((30 : Int32) &&& 0x3f).toInt64.toUInt64).toInt64)) * (-4658895280553007687 : Int64)).toUInt64 >>> ((27 : Int32) &&& 0x3f).toInt64.toUInt64).toInt64)) * (-7723592293110705685 : Int64)).toUInt64 >>> ((31 : Int32) &&& 0x3f).toInt64.toUInt64).toInt64)))) (fun h => by rw [Bd.returns] at h; cases h)
  refine ⟨_, _, q17 _ ?_, hrun, hended, _, _, rfl, ?_, ⟨_, rfl⟩, hW, hsame.mono (by decide) (by decide)⟩
  · show Steps p.tables e below (T15.setTop (mkF m 42 #[.val (.ref a1), .val (.long (((((s1 + (-7046029254386353131 : Int64)) ^^^ (((s1 + (-7046029254386353131 : Int64)).toUInt64 >>> ((30 : Int32) &&& 0x3f).toInt64.toUInt64).toInt64)) * (-4658895280553007687 : Int64)) ^^^ (((((s1 + (-7046029254386353131 : Int64)) ^^^ (((s1 + (-7046029254386353131 : Int64)).toUInt64 >>> ((30 : Int32) &&& 0x3f).toInt64.toUInt64).toInt64)) * (-4658895280553007687 : Int64)).toUInt64 >>> ((27 : Int32) &&& 0x3f).toInt64.toUInt64).toInt64)) * (-7723592293110705685 : Int64))), .second] [(.long ((((((s1 + (-7046029254386353131 : Int64)) ^^^ (((s1 + (-7046029254386353131 : Int64)).toUInt64 >>> ((30 : Int32) &&& 0x3f).toInt64.toUInt64).toInt64)) * (-4658895280553007687 : Int64)) ^^^ (((((s1 + (-7046029254386353131 : Int64)) ^^^ (((s1 + (-7046029254386353131 : Int64)).toUInt64 >>> ((30 : Int32) &&& 0x3f).toInt64.toUInt64).toInt64)) * (-4658895280553007687 : Int64)).toUInt64 >>> ((27 : Int32) &&& 0x3f).toInt64.toUInt64).toInt64)) * (-7723592293110705685 : Int64)) ^^^ (((((((s1 + (-7046029254386353131 : Int64)) ^^^ (((s1 + (-7046029254386353131 : Int64)).toUInt64 >>> ((30 : Int32) &&& 0x3f).toInt64.toUInt64).toInt64)) * (-4658895280553007687 : Int64)) ^^^ (((((s1 + (-7046029254386353131 : Int64)) ^^^ (((s1 + (-7046029254386353131 : Int64)).toUInt64 >>> ((30 : Int32) &&& 0x3f).toInt64.toUInt64).toInt64)) * (-4658895280553007687 : Int64)).toUInt64 >>> ((27 : Int32) &&& 0x3f).toInt64.toUInt64).toInt64)) * (-7723592293110705685 : Int64)).toUInt64 >>> ((31 : Int32) &&& 0x3f).toInt64.toUInt64).toInt64)))])) _
    exact X15.lreturnOut hx Bd.returns (hb hby d3_42) hr
  · show QJ Z a1 (own_mix (own_g s1)) (own_g s1) h0 n0 _ T15.heap _
    rw [e15]
    exact ⟨rfl, N15, (Keep.refl _ _).wr W15 (Or.inl (List.mem_of_getElem? (i := 0) rfl)), E.wr W15, F.same W15⟩
theorem ef_4 (m : MethodId) (a1 : Addr) (p1 : Int32) : entryFrame m #[(.ref a1), (.int p1)] 2 = mkF m 0 #[.val (.ref a1), .val (.int p1)] [] := by first | (simp [entryFrame, mkF, argsToLocals, Value.category]; done) | rfl
theorem d4_0 : decode prog_20_method_4_code 0 = .ok (.aload_n 0, 1) := by decide +kernel
theorem pd___J : parseMethodDescriptor "()J" = some ⟨[], some .long⟩ := by decide +kernel
theorem d4_1 : decode prog_20_method_4_code 1 = .ok (.invokevirtual 19, 3) := by decide +kernel
theorem d4_4 : decode prog_20_method_4_code 4 = .ok (.bipush 32, 2) := by decide +kernel
theorem d4_6 : decode prog_20_method_4_code 6 = .ok (.lushr, 1) := by decide +kernel
theorem d4_7 : decode prog_20_method_4_code 7 = .ok (.iload_n 1, 1) := by decide +kernel
theorem d4_8 : decode prog_20_method_4_code 8 = .ok (.i2l, 1) := by decide +kernel
theorem d4_9 : decode prog_20_method_4_code 9 = .ok (.lmul, 1) := by decide +kernel
theorem d4_10 : decode prog_20_method_4_code 10 = .ok (.bipush 32, 2) := by decide +kernel
theorem d4_12 : decode prog_20_method_4_code 12 = .ok (.lushr, 1) := by decide +kernel
theorem d4_13 : decode prog_20_method_4_code 13 = .ok (.l2i, 1) := by decide +kernel
theorem d4_14 : decode prog_20_method_4_code 14 = .ok (.ireturn, 1) := by decide +kernel
set_option maxRecDepth 65536 in
set_option maxHeartbeats 40000000 in
theorem rm4 (l : Launch) (Z : State) (a0 : Array Value) (hw : ∀ d ∈ tables_1, d.before a0 Z = true) (ws : List Jvm.Cond) (a1 : Addr) (p1 : Int32) (s1 : Int64) (h0 : Heap) (n0 : Nat) (Z0 : n0 ≤ h0.size) (F : Fld Z h0 a1 "org/edgehead/bench/SplitMix" "state" "J" (.long s1)) (E : Exa Z h0 a1 "org/edgehead/bench/SplitMix") (ga : n0 ≤ a1) :
    MetFree l (⟨"org/edgehead/bench/SplitMix", "nextInt", "(I)I"⟩ : MethodName) (head1 (Jvm.Cond.code (⟨"org/edgehead/bench/SplitMix", "nextInt", "(I)I"⟩ : MethodName) prog_20_method_4_code 2 (some .int) :: ws) ({ frames := 1, cells := 0, slots := 0, locals := 14 } : Room)) (fun a U => a = #[(.ref a1), (.int p1)] ∧ Z.Warmed39 U.vm ∧ U.heap = h0) (fun _ _ _ _ _ => True) (fun _ U o U' => ∃ v L, o = .returned v ∧ QK Z a1 (own_r (own_mix (own_g s1)) p1) (own_g s1) h0 n0 v U'.heap L ∧ FrameEnd U o U' L ({ frames := 1, cells := 0, slots := 0, locals := 14 } : Room).cells ({ frames := 1, cells := 0, slots := 0, locals := 14 } : Room).slots) := by
  refine MetFree.of_bodySF (plainFor_of_name pn_org_edgehead_bench_SplitMix) hisR ?_
  intro p e s m args below meth c s₁ Bd hml0 hP hK
  obtain ⟨rfl, hZ, hh⟩ := hP
  have hx := Bd.exec
  have hby := Bd.bytes
  have hml : c.maxLocals = 2 := hml0
  have hown : s.vm.findClass "org/edgehead/bench/SplitMix" = some m.cls := findClass_of_methodNamed Bd.named
  have hnm := (name_of_methodNamed Bd.named Bd.method).1
  have X0 : Stand p l e ({ frames := 1, cells := 0, slots := 0, locals := 14 } : Room) s m #[(.ref a1), (.int p1)] below meth c s₁ [] 0 0 := Stand.of_body Bd
  have e0 : s₁.heap = h0 := by rw [← hh, Bd.state]; rfl
  have N0 := Fr.nil n0
  have pre0 : ∀ t, Steps p.tables e below (s₁.setTop (mkF m 0 #[.val (.ref a1), .val (.int p1)] [])) t → Steps p.tables e below (s₁.setTop (entryFrame m #[(.ref a1), (.int p1)] 2)) t := fun t k => castTop (ef_4 m a1 p1) k
  have q18 : ∀ t, Steps p.tables e below (s₁.setTop (mkF m 1 #[.val (.ref a1), .val (.int p1)] [(.ref a1)])) t → Steps p.tables e below (s₁.setTop (entryFrame m #[(.ref a1), (.int p1)] 2)) t := fun t k => pre0 t (by
      show Steps p.tables e below (s₁.setTop (mkF m 0 #[.val (.ref a1), .val (.int p1)] [])) _
      refine XS.aloadN X0.here hx rfl (hb hby d4_0) rfl rfl ?_
      show Steps p.tables e below (s₁.setTop (mkF m 1 #[.val (.ref a1), .val (.int p1)] [(.ref a1)])) _
      exact k)
  obtain ⟨cq19, kq19, qa19, qb19, qc19⟩ := isOf hZ e0 (E)
  obtain ⟨_, _, ⟨T19, L19, kk19, nn19⟩, -, X19, ⟨Lc19, hQ19, l19, y19, z19⟩, st19⟩ := X0.virtualBack hx (y := (⟨"org/edgehead/bench/SplitMix", "nextLong", "()J"⟩ : MethodName)) (z := (⟨"org/edgehead/bench/SplitMix", "nextLong", "()J"⟩ : MethodName)) hown (mvT hZ (hw _ (List.mem_of_getElem? (i := 29) rfl))) (mvT hZ (hw _ (List.mem_of_getElem? (i := 17) rfl))) (notFace_of_selects (args := #[]) (mvT hZ (hw _ (List.mem_of_getElem? (i := 19) rfl)))) (mvT hZ (hw _ (List.mem_of_getElem? (i := 19) rfl))) (mvT hZ (hw _ (List.mem_of_getElem? (i := 18) rfl))) (by decide) (backOf (W := 0) (rm3 l Z a0 hw [] a1 s1 h0 n0 Z0 F E ga) hZ (hw _ (List.mem_of_getElem? (i := 20) rfl)) (hw _ (List.mem_of_getElem? (i := 7) rfl)) (by decide) (by decide)) qa19 qc19 (g := (mkF m 1 #[.val (.ref a1), .val (.int p1)] [(.ref a1)])) rfl (by rw [hml]; rfl) (Steps.refl _) (argsL := []) (rest := []) (lenOf pd___J rfl) rfl (by show 2 * 0 + _ ≤ _; exact Nat.le_of_eq rfl) (hb hby d4_1) (fun _ _ => ⟨rfl, e0, (by decide : 0 + 0 ≤ _), (by decide : 0 + 0 ≤ _)⟩)
  dsimp only [Pt.U, Pt.locs, Pt.cells, Pt.slots] at X19 l19 y19 z19 st19 hQ19
  subst l19 y19 z19
  obtain ⟨rfl, Nq19, K19, E19, F19⟩ := hQ19
  have N19 := Fr.app N0 Nq19
  have q20 : ∀ t, Steps p.tables e below (T19.setTop (mkF m 4 #[.val (.ref a1), .val (.int p1)] [(.long (own_mix (own_g s1)))])) t → Steps p.tables e below (s₁.setTop (entryFrame m #[(.ref a1), (.int p1)] 2)) t := fun t k => q18 t (st19.trans k)
  have q21 : ∀ t, Steps p.tables e below (T19.setTop (mkF m 14 #[.val (.ref a1), .val (.int p1)] [(.int (((((((own_mix (own_g s1)).toUInt64 >>> ((32 : Int32) &&& 0x3f).toInt64.toUInt64).toInt64) * (p1.toInt64)).toUInt64 >>> ((32 : Int32) &&& 0x3f).toInt64.toUInt64).toInt64).toInt32))])) t → Steps p.tables e below (s₁.setTop (entryFrame m #[(.ref a1), (.int p1)] 2)) t := fun t k => q20 t (by
      show Steps p.tables e below (T19.setTop (mkF m 4 #[.val (.ref a1), .val (.int p1)] [(.long (own_mix (own_g s1)))])) _
      refine XS.bipush X19.here hx rfl (hb hby d4_4) ?_
      show Steps p.tables e below (T19.setTop (mkF m 6 #[.val (.ref a1), .val (.int p1)] [(.int (32 : Int32)), (.long (own_mix (own_g s1)))])) _
      refine XS.lushr X19.here hx rfl (hb hby d4_6) rfl ?_
      show Steps p.tables e below (T19.setTop (mkF m 7 #[.val (.ref a1), .val (.int p1)] [(.long (((own_mix (own_g s1)).toUInt64 >>> ((32 : Int32) &&& 0x3f).toInt64.toUInt64).toInt64))])) _
      refine XS.iloadN X19.here hx rfl (hb hby d4_7) rfl ?_
      show Steps p.tables e below (T19.setTop (mkF m 8 #[.val (.ref a1), .val (.int p1)] [(.int p1), (.long (((own_mix (own_g s1)).toUInt64 >>> ((32 : Int32) &&& 0x3f).toInt64.toUInt64).toInt64))])) _
      refine XS.i2l X19.here hx rfl (hb hby d4_8) rfl ?_
      show Steps p.tables e below (T19.setTop (mkF m 9 #[.val (.ref a1), .val (.int p1)] [(.long (p1.toInt64)), (.long (((own_mix (own_g s1)).toUInt64 >>> ((32 : Int32) &&& 0x3f).toInt64.toUInt64).toInt64))])) _
      refine XS.lmul X19.here hx rfl (hb hby d4_9) rfl ?_
      show Steps p.tables e below (T19.setTop (mkF m 10 #[.val (.ref a1), .val (.int p1)] [(.long ((((own_mix (own_g s1)).toUInt64 >>> ((32 : Int32) &&& 0x3f).toInt64.toUInt64).toInt64) * (p1.toInt64)))])) _
      refine XS.bipush X19.here hx rfl (hb hby d4_10) ?_
      show Steps p.tables e below (T19.setTop (mkF m 12 #[.val (.ref a1), .val (.int p1)] [(.int (32 : Int32)), (.long ((((own_mix (own_g s1)).toUInt64 >>> ((32 : Int32) &&& 0x3f).toInt64.toUInt64).toInt64) * (p1.toInt64)))])) _
      refine XS.lushr X19.here hx rfl (hb hby d4_12) rfl ?_
      show Steps p.tables e below (T19.setTop (mkF m 13 #[.val (.ref a1), .val (.int p1)] [(.long ((((((own_mix (own_g s1)).toUInt64 >>> ((32 : Int32) &&& 0x3f).toInt64.toUInt64).toInt64) * (p1.toInt64)).toUInt64 >>> ((32 : Int32) &&& 0x3f).toInt64.toUInt64).toInt64))])) _
      refine XS.l2i X19.here hx rfl (hb hby d4_13) rfl ?_
      show Steps p.tables e below (T19.setTop (mkF m 14 #[.val (.ref a1), .val (.int p1)] [(.int (((((((own_mix (own_g s1)).toUInt64 >>> ((32 : Int32) &&& 0x3f).toInt64.toUInt64).toInt64) * (p1.toInt64)).toUInt64 >>> ((32 : Int32) &&& 0x3f).toInt64.toUInt64).toInt64).toInt32))])) _
      exact k)
  obtain ⟨fs, hr, hrun, hended, hW, hsame⟩ := X19.leave (v := some (.int (((((((own_mix (own_g s1)).toUInt64 >>> ((32 : Int32) &&& 0x3f).toInt64.toUInt64).toInt64) * (p1.toInt64)).toUInt64 >>> ((32 : Int32) &&& 0x3f).toInt64.toUInt64).toInt64).toInt32))) (fun h => by rw [Bd.returns] at h; cases h)
  refine ⟨_, _, q21 _ ?_, hrun, hended, _, _, rfl, ?_, ⟨_, rfl⟩, hW, hsame.mono (by decide) (by decide)⟩
  · show Steps p.tables e below (T19.setTop (mkF m 14 #[.val (.ref a1), .val (.int p1)] [(.int (((((((own_mix (own_g s1)).toUInt64 >>> ((32 : Int32) &&& 0x3f).toInt64.toUInt64).toInt64) * (p1.toInt64)).toUInt64 >>> ((32 : Int32) &&& 0x3f).toInt64.toUInt64).toInt64).toInt32))])) _
    exact retI X19 hx Bd.returns (hb hby d4_14) hr
  · show QK Z a1 (own_r (own_mix (own_g s1)) p1) (own_g s1) h0 n0 _ T19.heap _
    exact ⟨rfl, N19, K19, E19, F19⟩
def QL (n0 : Nat) (v : Option Value) (h : Heap) (L : List Loc) : Prop := v = some (.int (1 : Int32)) ∧ Fr n0 L
theorem pn_org_edgehead_bench_SplitMixNextIntPinLaw : plainName "org/edgehead/bench/SplitMixNextIntPinLaw" = true := by first | (simp [plainName, overriddenIn]; done) | decide +kernel
theorem ef_0 (m : MethodId) (s1 : Int64) (p2 : Int32) : entryFrame m #[(.long s1), (.int p2)] maxLocals = mkF m 0 #[.val (.long s1), .second, .val (.int p2), .unset, .unset, .unset, .unset, .unset, .unset, .unset, .unset, .unset, .unset, .unset, .unset] [] := by first | (simp [entryFrame, mkF, argsToLocals, Value.category, maxLocals]; done) | rfl
theorem pd__II_I : parseMethodDescriptor "(II)I" = some ⟨[.int, .int], some .int⟩ := by decide +kernel
theorem pd__J_V : parseMethodDescriptor "(J)V" = some ⟨[.long], none⟩ := by decide +kernel
theorem pd__I_I : parseMethodDescriptor "(I)I" = some ⟨[.int], some .int⟩ := by decide +kernel
set_option maxRecDepth 65536 in
set_option maxHeartbeats 40000000 in
theorem rm0 (l : Launch) (Z : State) (a0 : Array Value) (hw : ∀ d ∈ tables_1, d.before a0 Z = true) (ws : List Jvm.Cond) (s1 : Int64) (p2 : Int32) (h0 : Heap) (n0 : Nat) (Z0 : n0 ≤ h0.size) :
    MetFree l x (head1 (Jvm.Cond.code x code maxLocals ret :: ws) room_1) (fun a U => a = #[(.long s1), (.int p2)] ∧ Z.Warmed39 U.vm ∧ U.heap = h0) (fun _ _ _ _ _ => True) (fun _ U o U' => ∃ v L, o = .returned v ∧ QL n0 v U'.heap L ∧ FrameEnd U o U' L room_1.cells room_1.slots) := by
  refine MetFree.of_bodySF (plainFor_of_name pn_org_edgehead_bench_SplitMixNextIntPinLaw) hisR ?_
  intro p e s m args below meth c s₁ Bd hml0 hP hK
  obtain ⟨rfl, hZ, hh⟩ := hP
  have hx := Bd.exec
  have hby := Bd.bytes
  have hml : c.maxLocals = 15 := hml0
  have hown : s.vm.findClass "org/edgehead/bench/SplitMixNextIntPinLaw" = some m.cls := findClass_of_methodNamed Bd.named
  have hnm := (name_of_methodNamed Bd.named Bd.method).1
  have X0 : Stand p l e room_1 s m #[(.long s1), (.int p2)] below meth c s₁ [] 0 0 := Stand.of_body Bd
  have e0 : s₁.heap = h0 := by rw [← hh, Bd.state]; rfl
  have N0 := Fr.nil n0
  have pre0 : ∀ t, Steps p.tables e below (s₁.setTop (mkF m 0 #[.val (.long s1), .second, .val (.int p2), .unset, .unset, .unset, .unset, .unset, .unset, .unset, .unset, .unset, .unset, .unset, .unset] [])) t → Steps p.tables e below (s₁.setTop (entryFrame m #[(.long s1), (.int p2)] maxLocals)) t := fun t k => castTop (ef_0 m s1 p2) k
  obtain ⟨B, eB⟩ : ∃ B, B = own_max (1 : Int32) (p2 &&& (2147483647 : Int32)) := ⟨_, rfl⟩
  have hB : 1 ≤ B.toInt := by rw [eB]; unfold own_max; have q1 : (1 : Int32).toInt = 1 := rfl; split <;> rename_i q2 <;> rw [Int32.lt_iff_toInt_lt] at q2 <;> omega
  have q22 : ∀ t, Steps p.tables e below (s₁.setTop (mkF m 5 #[.val (.long s1), .second, .val (.int p2), .unset, .unset, .unset, .unset, .unset, .unset, .unset, .unset, .unset, .unset, .unset, .unset] [(.int (p2 &&& (2147483647 : Int32))), (.int (1 : Int32))])) t → Steps p.tables e below (s₁.setTop (entryFrame m #[(.long s1), (.int p2)] maxLocals)) t := fun t k => pre0 t (by
      show Steps p.tables e below (s₁.setTop (mkF m 0 #[.val (.long s1), .second, .val (.int p2), .unset, .unset, .unset, .unset, .unset, .unset, .unset, .unset, .unset, .unset, .unset, .unset] [])) _
      refine XS.iconst X0.here hx rfl (hb hby at_0) ?_
      show Steps p.tables e below (s₁.setTop (mkF m 1 #[.val (.long s1), .second, .val (.int p2), .unset, .unset, .unset, .unset, .unset, .unset, .unset, .unset, .unset, .unset, .unset, .unset] [(.int (1 : Int32))])) _
      refine XS.iloadN X0.here hx rfl (hb hby at_1) rfl ?_
      show Steps p.tables e below (s₁.setTop (mkF m 2 #[.val (.long s1), .second, .val (.int p2), .unset, .unset, .unset, .unset, .unset, .unset, .unset, .unset, .unset, .unset, .unset, .unset] [(.int p2), (.int (1 : Int32))])) _
      refine Jvm.Stand.ldcI X0 hx hown (mvT hZ (hw _ (List.mem_of_getElem? (i := 0) rfl))) rfl (hb hby at_2) ?_
      show Steps p.tables e below (s₁.setTop (mkF m 4 #[.val (.long s1), .second, .val (.int p2), .unset, .unset, .unset, .unset, .unset, .unset, .unset, .unset, .unset, .unset, .unset, .unset] [(.int (2147483647 : Int32)), (.int p2), (.int (1 : Int32))])) _
      refine XS.iand X0.here hx rfl (hb hby at_4) rfl ?_
      show Steps p.tables e below (s₁.setTop (mkF m 5 #[.val (.long s1), .second, .val (.int p2), .unset, .unset, .unset, .unset, .unset, .unset, .unset, .unset, .unset, .unset, .unset, .unset] [(.int (p2 &&& (2147483647 : Int32))), (.int (1 : Int32))])) _
      exact k)
  obtain ⟨_, _, ⟨T23, L23, kk23, nn23⟩, -, X23, ⟨Lc23, hQ23, l23, y23, z23⟩, st23⟩ := Jvm.LawKit.callS X0 hx (y := (⟨"java/lang/Math", "max", "(II)I"⟩ : MethodName)) hown (mvT hZ (hw _ (List.mem_of_getElem? (i := 1) rfl))) (mvT hZ (hw _ (List.mem_of_getElem? (i := 2) rfl))) (mvT hZ (hw _ (List.mem_of_getElem? (i := 3) rfl))) (mvT hZ (hw _ (List.mem_of_getElem? (i := 4) rfl))) (by decide) (backOf (W := 0) (rm1 l Z a0 hw [] (1 : Int32) (p2 &&& (2147483647 : Int32)) h0 n0 Z0) hZ (hw _ (List.mem_of_getElem? (i := 4) rfl)) (hw _ (List.mem_of_getElem? (i := 3) rfl)) (by decide) (by decide)) (g := (mkF m 5 #[.val (.long s1), .second, .val (.int p2), .unset, .unset, .unset, .unset, .unset, .unset, .unset, .unset, .unset, .unset, .unset, .unset] [(.int (p2 &&& (2147483647 : Int32))), (.int (1 : Int32))])) rfl (by rw [hml]; rfl) (argsL := [(.int (1 : Int32)), (.int (p2 &&& (2147483647 : Int32)))]) (rest := []) (lenOf pd__II_I rfl) rfl (by show 2 * 0 + _ ≤ _; exact Nat.le_of_eq rfl) (hb hby at_5) (fun _ _ => ⟨rfl, e0, (by decide : 0 + 0 ≤ _), (by decide : 0 + 0 ≤ _)⟩)
  dsimp only [Pt.U, Pt.locs, Pt.cells, Pt.slots] at X23 l23 y23 z23 st23 hQ23
  subst l23 y23 z23
  obtain ⟨rfl, Nq23, e23⟩ := hQ23
  have N23 := Fr.app N0 Nq23
  have q24 : ∀ t, Steps p.tables e below (T23.setTop (mkF m 8 #[.val (.long s1), .second, .val (.int p2), .unset, .unset, .unset, .unset, .unset, .unset, .unset, .unset, .unset, .unset, .unset, .unset] [(.int (own_max (1 : Int32) (p2 &&& (2147483647 : Int32))))])) t → Steps p.tables e below (s₁.setTop (entryFrame m #[(.long s1), (.int p2)] maxLocals)) t := fun t k => q22 t (st23 t k)
  have q25 : ∀ t, Steps p.tables e below (T23.setTop (mkF m 8 #[.val (.long s1), .second, .val (.int p2), .unset, .unset, .unset, .unset, .unset, .unset, .unset, .unset, .unset, .unset, .unset, .unset] [(.int B)])) t → Steps p.tables e below (s₁.setTop (entryFrame m #[(.long s1), (.int p2)] maxLocals)) t := fun t k => q24 t (by rw [show (own_max (1 : Int32) (p2 &&& (2147483647 : Int32))) = B from (eB).symm]; exact k)
  have q26 : ∀ t, Steps p.tables e below (T23.setTop (mkF m 9 #[.val (.long s1), .second, .val (.int p2), .val (.int B), .unset, .unset, .unset, .unset, .unset, .unset, .unset, .unset, .unset, .unset, .unset] [])) t → Steps p.tables e below (s₁.setTop (entryFrame m #[(.long s1), (.int p2)] maxLocals)) t := fun t k => q25 t (by
      show Steps p.tables e below (T23.setTop (mkF m 8 #[.val (.long s1), .second, .val (.int p2), .unset, .unset, .unset, .unset, .unset, .unset, .unset, .unset, .unset, .unset, .unset, .unset] [(.int B)])) _
      refine XS.istoreN X23.here hx rfl (hb hby at_8) rfl (l' := #[.val (.long s1), .second, .val (.int p2), .val (.int B), .unset, .unset, .unset, .unset, .unset, .unset, .unset, .unset, .unset, .unset, .unset]) rfl ?_
      show Steps p.tables e below (T23.setTop (mkF m 9 #[.val (.long s1), .second, .val (.int p2), .val (.int B), .unset, .unset, .unset, .unset, .unset, .unset, .unset, .unset, .unset, .unset, .unset] [])) _
      exact k)
  obtain ⟨T27, h27, X27, e27, E27, A27, D27, -, st27⟩ := newO X23 hx hZ hown (hw _ (List.mem_of_getElem? (i := 5) rfl)) (hw _ (List.mem_of_getElem? (i := 6) rfl)) (hw _ (List.mem_of_getElem? (i := 7) rfl)) e23 (g := (mkF m 9 #[.val (.long s1), .second, .val (.int p2), .val (.int B), .unset, .unset, .unset, .unset, .unset, .unset, .unset, .unset, .unset, .unset, .unset] [])) rfl (hb hby at_9) (by decide) (by decide)
  obtain ⟨b27, g27⟩ : ∃ z, z = h0.size := ⟨_, rfl⟩
  rw [← g27] at A27 D27 st27
  have q28 : ∀ t, Steps p.tables e below (T27.setTop (mkF m 12 #[.val (.long s1), .second, .val (.int p2), .val (.int B), .unset, .unset, .unset, .unset, .unset, .unset, .unset, .unset, .unset, .unset, .unset] [(.ref b27)])) t → Steps p.tables e below (s₁.setTop (entryFrame m #[(.long s1), (.int p2)] maxLocals)) t := fun t k => q26 t (st27 t k)
  have Z27 : n0 ≤ h27.size := Nat.le_trans Z0 E27.1
  have gA : n0 ≤ b27 := Nat.le_trans Z0 (Nat.le_of_eq g27.symm)
  have FA : Fld Z h27 b27 "org/edgehead/bench/SplitMix" "state" "J" (.long 0) := D27 (Or.inl (hw _ (List.mem_of_getElem? (i := 15) rfl))) (ty := .long) (by decide)
  have q29 : ∀ t, Steps p.tables e below (T27.setTop (mkF m 14 #[.val (.long s1), .second, .val (.int p2), .val (.int B), .unset, .unset, .unset, .unset, .unset, .unset, .unset, .unset, .unset, .unset, .unset] [(.long s1), (.ref b27), (.ref b27)])) t → Steps p.tables e below (s₁.setTop (entryFrame m #[(.long s1), (.int p2)] maxLocals)) t := fun t k => q28 t (by
      show Steps p.tables e below (T27.setTop (mkF m 12 #[.val (.long s1), .second, .val (.int p2), .val (.int B), .unset, .unset, .unset, .unset, .unset, .unset, .unset, .unset, .unset, .unset, .unset] [(.ref b27)])) _
      refine XS.dup X27.here hx rfl (hb hby at_12) rfl rfl ?_
      show Steps p.tables e below (T27.setTop (mkF m 13 #[.val (.long s1), .second, .val (.int p2), .val (.int B), .unset, .unset, .unset, .unset, .unset, .unset, .unset, .unset, .unset, .unset, .unset] [(.ref b27), (.ref b27)])) _
      refine XS.lloadN X27.here hx rfl (hb hby at_13) rfl ?_
      show Steps p.tables e below (T27.setTop (mkF m 14 #[.val (.long s1), .second, .val (.int p2), .val (.int B), .unset, .unset, .unset, .unset, .unset, .unset, .unset, .unset, .unset, .unset, .unset] [(.long s1), (.ref b27), (.ref b27)])) _
      exact k)
  obtain ⟨_, _, ⟨T30, L30, kk30, nn30⟩, -, X30, ⟨Lc30, hQ30, l30, y30, z30⟩, st30⟩ := X27.specialBack hx (y := (⟨"org/edgehead/bench/SplitMix", "<init>", "(J)V"⟩ : MethodName)) rfl hown (mvT hZ (hw _ (List.mem_of_getElem? (i := 8) rfl))) (mvT hZ (hw _ (List.mem_of_getElem? (i := 9) rfl))) (mvT hZ (hw _ (List.mem_of_getElem? (i := 10) rfl))) (by decide) (backOf (W := 1) (rm2 l Z a0 hw [] b27 s1 h27 n0 Z27 FA A27 gA) hZ (hw _ (List.mem_of_getElem? (i := 10) rfl)) (hw _ (List.mem_of_getElem? (i := 7) rfl)) (by decide) (by decide)) (g := (mkF m 14 #[.val (.long s1), .second, .val (.int p2), .val (.int B), .unset, .unset, .unset, .unset, .unset, .unset, .unset, .unset, .unset, .unset, .unset] [(.long s1), (.ref b27), (.ref b27)])) rfl (by rw [hml]; rfl) (Steps.refl _) (a := b27) (argsL := [(.long s1)]) (rest := [(.ref b27)]) (lenOf pd__J_V rfl) rfl (by show 2 * 0 + _ ≤ _; exact Nat.le_of_eq rfl) (hb hby at_14) (fun _ _ => ⟨rfl, e27, (by decide : 1 + 0 ≤ _), (by decide : 1 + 0 ≤ _)⟩)
  dsimp only [Pt.U, Pt.locs, Pt.cells, Pt.slots] at X30 l30 y30 z30 st30 hQ30
  subst l30 y30 z30
  obtain ⟨rfl, Nq30, K30, EE30, FF30⟩ := hQ30
  have N30 := Fr.app N23 Nq30
  have q31 : ∀ t, Steps p.tables e below (T30.setTop (mkF m 17 #[.val (.long s1), .second, .val (.int p2), .val (.int B), .unset, .unset, .unset, .unset, .unset, .unset, .unset, .unset, .unset, .unset, .unset] [(.ref b27)])) t → Steps p.tables e below (s₁.setTop (entryFrame m #[(.long s1), (.int p2)] maxLocals)) t := fun t k => q29 t (st30.trans k)
  have Y30 : n0 ≤ T30.heap.size := Nat.le_trans Z27 K30.1
  have q32 : ∀ t, Steps p.tables e below (T30.setTop (mkF m 19 #[.val (.long s1), .second, .val (.int p2), .val (.int B), .val (.ref b27), .unset, .unset, .unset, .unset, .unset, .unset, .unset, .unset, .unset, .unset] [])) t → Steps p.tables e below (s₁.setTop (entryFrame m #[(.long s1), (.int p2)] maxLocals)) t := fun t k => q31 t (by
      show Steps p.tables e below (T30.setTop (mkF m 17 #[.val (.long s1), .second, .val (.int p2), .val (.int B), .unset, .unset, .unset, .unset, .unset, .unset, .unset, .unset, .unset, .unset, .unset] [(.ref b27)])) _
      refine XS.astore X30.here hx rfl (hb hby at_17) rfl rfl (l' := #[.val (.long s1), .second, .val (.int p2), .val (.int B), .val (.ref b27), .unset, .unset, .unset, .unset, .unset, .unset, .unset, .unset, .unset, .unset]) rfl ?_
      show Steps p.tables e below (T30.setTop (mkF m 19 #[.val (.long s1), .second, .val (.int p2), .val (.int B), .val (.ref b27), .unset, .unset, .unset, .unset, .unset, .unset, .unset, .unset, .unset, .unset] [])) _
      exact k)
  obtain ⟨T33, h33, X33, e33, E33, A33, D33, -, st33⟩ := newO X30 hx hZ hown (hw _ (List.mem_of_getElem? (i := 5) rfl)) (hw _ (List.mem_of_getElem? (i := 6) rfl)) (hw _ (List.mem_of_getElem? (i := 7) rfl)) rfl (g := (mkF m 19 #[.val (.long s1), .second, .val (.int p2), .val (.int B), .val (.ref b27), .unset, .unset, .unset, .unset, .unset, .unset, .unset, .unset, .unset, .unset] [])) rfl (hb hby at_19) (by decide) (by decide)
  obtain ⟨b33, g33⟩ : ∃ z, z = T30.heap.size := ⟨_, rfl⟩
  rw [← g33] at A33 D33 st33
  have q34 : ∀ t, Steps p.tables e below (T33.setTop (mkF m 22 #[.val (.long s1), .second, .val (.int p2), .val (.int B), .val (.ref b27), .unset, .unset, .unset, .unset, .unset, .unset, .unset, .unset, .unset, .unset] [(.ref b33)])) t → Steps p.tables e below (s₁.setTop (entryFrame m #[(.long s1), (.int p2)] maxLocals)) t := fun t k => q32 t (st33 t k)
  have Z33 : n0 ≤ h33.size := Nat.le_trans Y30 E33.1
  have gB : n0 ≤ b33 := Nat.le_trans Y30 (Nat.le_of_eq g33.symm)
  have FB : Fld Z h33 b33 "org/edgehead/bench/SplitMix" "state" "J" (.long 0) := D33 (Or.inl (hw _ (List.mem_of_getElem? (i := 15) rfl))) (ty := .long) (by decide)
  have nAB : b27 ≠ b33 := Nat.ne_of_lt (Nat.lt_of_lt_of_le EE30.lt (Nat.le_of_eq g33.symm))
  have q35 : ∀ t, Steps p.tables e below (T33.setTop (mkF m 24 #[.val (.long s1), .second, .val (.int p2), .val (.int B), .val (.ref b27), .unset, .unset, .unset, .unset, .unset, .unset, .unset, .unset, .unset, .unset] [(.long s1), (.ref b33), (.ref b33)])) t → Steps p.tables e below (s₁.setTop (entryFrame m #[(.long s1), (.int p2)] maxLocals)) t := fun t k => q34 t (by
      show Steps p.tables e below (T33.setTop (mkF m 22 #[.val (.long s1), .second, .val (.int p2), .val (.int B), .val (.ref b27), .unset, .unset, .unset, .unset, .unset, .unset, .unset, .unset, .unset, .unset] [(.ref b33)])) _
      refine XS.dup X33.here hx rfl (hb hby at_22) rfl rfl ?_
      show Steps p.tables e below (T33.setTop (mkF m 23 #[.val (.long s1), .second, .val (.int p2), .val (.int B), .val (.ref b27), .unset, .unset, .unset, .unset, .unset, .unset, .unset, .unset, .unset, .unset] [(.ref b33), (.ref b33)])) _
      refine XS.lloadN X33.here hx rfl (hb hby at_23) rfl ?_
      show Steps p.tables e below (T33.setTop (mkF m 24 #[.val (.long s1), .second, .val (.int p2), .val (.int B), .val (.ref b27), .unset, .unset, .unset, .unset, .unset, .unset, .unset, .unset, .unset, .unset] [(.long s1), (.ref b33), (.ref b33)])) _
      exact k)
  obtain ⟨_, _, ⟨T36, L36, kk36, nn36⟩, -, X36, ⟨Lc36, hQ36, l36, y36, z36⟩, st36⟩ := X33.specialBack hx (y := (⟨"org/edgehead/bench/SplitMix", "<init>", "(J)V"⟩ : MethodName)) rfl hown (mvT hZ (hw _ (List.mem_of_getElem? (i := 8) rfl))) (mvT hZ (hw _ (List.mem_of_getElem? (i := 9) rfl))) (mvT hZ (hw _ (List.mem_of_getElem? (i := 10) rfl))) (by decide) (backOf (W := 1) (rm2 l Z a0 hw [] b33 s1 h33 n0 Z33 FB A33 gB) hZ (hw _ (List.mem_of_getElem? (i := 10) rfl)) (hw _ (List.mem_of_getElem? (i := 7) rfl)) (by decide) (by decide)) (g := (mkF m 24 #[.val (.long s1), .second, .val (.int p2), .val (.int B), .val (.ref b27), .unset, .unset, .unset, .unset, .unset, .unset, .unset, .unset, .unset, .unset] [(.long s1), (.ref b33), (.ref b33)])) rfl (by rw [hml]; rfl) (Steps.refl _) (a := b33) (argsL := [(.long s1)]) (rest := [(.ref b33)]) (lenOf pd__J_V rfl) rfl (by show 2 * 0 + _ ≤ _; exact Nat.le_of_eq rfl) (hb hby at_24) (fun _ _ => ⟨rfl, e33, (by decide : 2 + 0 ≤ _), (by decide : 2 + 0 ≤ _)⟩)
  dsimp only [Pt.U, Pt.locs, Pt.cells, Pt.slots] at X36 l36 y36 z36 st36 hQ36
  subst l36 y36 z36
  obtain ⟨rfl, Nq36, K36, EE36, FF36⟩ := hQ36
  have N36 := Fr.app N30 Nq36
  have q37 : ∀ t, Steps p.tables e below (T36.setTop (mkF m 27 #[.val (.long s1), .second, .val (.int p2), .val (.int B), .val (.ref b27), .unset, .unset, .unset, .unset, .unset, .unset, .unset, .unset, .unset, .unset] [(.ref b33)])) t → Steps p.tables e below (s₁.setTop (entryFrame m #[(.long s1), (.int p2)] maxLocals)) t := fun t k => q35 t (st36.trans k)
  have Y36 : n0 ≤ T36.heap.size := Nat.le_trans Z33 K36.1
  have cE1 := Exa.keep (EE30.ext E33) K36
  have cF1 := Fld.keep (FF30.ext E33) K36 (ninS nAB nin0)
  have q38 : ∀ t, Steps p.tables e below (T36.setTop (mkF m 31 #[.val (.long s1), .second, .val (.int p2), .val (.int B), .val (.ref b27), .val (.ref b33), .unset, .unset, .unset, .unset, .unset, .unset, .unset, .unset, .unset] [(.ref b33)])) t → Steps p.tables e below (s₁.setTop (entryFrame m #[(.long s1), (.int p2)] maxLocals)) t := fun t k => q37 t (by
      show Steps p.tables e below (T36.setTop (mkF m 27 #[.val (.long s1), .second, .val (.int p2), .val (.int B), .val (.ref b27), .unset, .unset, .unset, .unset, .unset, .unset, .unset, .unset, .unset, .unset] [(.ref b33)])) _
      refine XS.astore X36.here hx rfl (hb hby at_27) rfl rfl (l' := #[.val (.long s1), .second, .val (.int p2), .val (.int B), .val (.ref b27), .val (.ref b33), .unset, .unset, .unset, .unset, .unset, .unset, .unset, .unset, .unset]) rfl ?_
      show Steps p.tables e below (T36.setTop (mkF m 29 #[.val (.long s1), .second, .val (.int p2), .val (.int B), .val (.ref b27), .val (.ref b33), .unset, .unset, .unset, .unset, .unset, .unset, .unset, .unset, .unset] [])) _
      refine XS.aload X36.here hx rfl (hb hby at_29) rfl rfl ?_
      show Steps p.tables e below (T36.setTop (mkF m 31 #[.val (.long s1), .second, .val (.int p2), .val (.int B), .val (.ref b27), .val (.ref b33), .unset, .unset, .unset, .unset, .unset, .unset, .unset, .unset, .unset] [(.ref b33)])) _
      exact k)
  obtain ⟨cq39, kq39, qa39, qb39, qc39⟩ := isOf hZ rfl (EE36)
  obtain ⟨_, _, ⟨T39, L39, kk39, nn39⟩, -, X39, ⟨Lc39, hQ39, l39, y39, z39⟩, st39⟩ := X36.virtualBack hx (y := (⟨"org/edgehead/bench/SplitMix", "nextLong", "()J"⟩ : MethodName)) (z := (⟨"org/edgehead/bench/SplitMix", "nextLong", "()J"⟩ : MethodName)) hown (mvT hZ (hw _ (List.mem_of_getElem? (i := 16) rfl))) (mvT hZ (hw _ (List.mem_of_getElem? (i := 17) rfl))) (notFace_of_selects (args := #[]) (mvT hZ (hw _ (List.mem_of_getElem? (i := 19) rfl)))) (mvT hZ (hw _ (List.mem_of_getElem? (i := 19) rfl))) (mvT hZ (hw _ (List.mem_of_getElem? (i := 18) rfl))) (by decide) (backOf (W := 0) (rm3 l Z a0 hw [] b33 s1 T36.heap n0 Y36 FF36 EE36 gB) hZ (hw _ (List.mem_of_getElem? (i := 20) rfl)) (hw _ (List.mem_of_getElem? (i := 7) rfl)) (by decide) (by decide)) qa39 qc39 (g := (mkF m 31 #[.val (.long s1), .second, .val (.int p2), .val (.int B), .val (.ref b27), .val (.ref b33), .unset, .unset, .unset, .unset, .unset, .unset, .unset, .unset, .unset] [(.ref b33)])) rfl (by rw [hml]; rfl) (Steps.refl _) (argsL := []) (rest := []) (lenOf pd___J rfl) rfl (by show 2 * 0 + _ ≤ _; exact Nat.le_of_eq rfl) (hb hby at_31) (fun _ _ => ⟨rfl, rfl, (by decide : 2 + 0 ≤ _), (by decide : 2 + 0 ≤ _)⟩)
  dsimp only [Pt.U, Pt.locs, Pt.cells, Pt.slots] at X39 l39 y39 z39 st39 hQ39
  subst l39 y39 z39
  obtain ⟨rfl, Nq39, K39, EE39, FF39⟩ := hQ39
  have N39 := Fr.app N36 Nq39
  have q40 : ∀ t, Steps p.tables e below (T39.setTop (mkF m 34 #[.val (.long s1), .second, .val (.int p2), .val (.int B), .val (.ref b27), .val (.ref b33), .unset, .unset, .unset, .unset, .unset, .unset, .unset, .unset, .unset] [(.long (own_mix (own_g s1)))])) t → Steps p.tables e below (s₁.setTop (entryFrame m #[(.long s1), (.int p2)] maxLocals)) t := fun t k => q38 t (st39.trans k)
  have Y39 : n0 ≤ T39.heap.size := Nat.le_trans Y36 K39.1
  have cE2 := Exa.keep cE1 K39
  have cF2 := Fld.keep cF1 K39 (ninS nAB nin0)
  have q41 : ∀ t, Steps p.tables e below (T39.setTop (mkF m 42 #[.val (.long s1), .second, .val (.int p2), .val (.int B), .val (.ref b27), .val (.ref b33), .val (.long (((own_mix (own_g s1)).toUInt64 >>> ((32 : Int32) &&& 0x3f).toInt64.toUInt64).toInt64)), .second, .unset, .unset, .unset, .unset, .unset, .unset, .unset] [(.int B), (.ref b27)])) t → Steps p.tables e below (s₁.setTop (entryFrame m #[(.long s1), (.int p2)] maxLocals)) t := fun t k => q40 t (by
      show Steps p.tables e below (T39.setTop (mkF m 34 #[.val (.long s1), .second, .val (.int p2), .val (.int B), .val (.ref b27), .val (.ref b33), .unset, .unset, .unset, .unset, .unset, .unset, .unset, .unset, .unset] [(.long (own_mix (own_g s1)))])) _
      refine XS.bipush X39.here hx rfl (hb hby at_34) ?_
      show Steps p.tables e below (T39.setTop (mkF m 36 #[.val (.long s1), .second, .val (.int p2), .val (.int B), .val (.ref b27), .val (.ref b33), .unset, .unset, .unset, .unset, .unset, .unset, .unset, .unset, .unset] [(.int (32 : Int32)), (.long (own_mix (own_g s1)))])) _
      refine XS.lushr X39.here hx rfl (hb hby at_36) rfl ?_
      show Steps p.tables e below (T39.setTop (mkF m 37 #[.val (.long s1), .second, .val (.int p2), .val (.int B), .val (.ref b27), .val (.ref b33), .unset, .unset, .unset, .unset, .unset, .unset, .unset, .unset, .unset] [(.long (((own_mix (own_g s1)).toUInt64 >>> ((32 : Int32) &&& 0x3f).toInt64.toUInt64).toInt64))])) _
      refine XS.lstore X39.here hx rfl (hb hby at_37) rfl (l' := #[.val (.long s1), .second, .val (.int p2), .val (.int B), .val (.ref b27), .val (.ref b33), .val (.long (((own_mix (own_g s1)).toUInt64 >>> ((32 : Int32) &&& 0x3f).toInt64.toUInt64).toInt64)), .second, .unset, .unset, .unset, .unset, .unset, .unset, .unset]) rfl ?_
      show Steps p.tables e below (T39.setTop (mkF m 39 #[.val (.long s1), .second, .val (.int p2), .val (.int B), .val (.ref b27), .val (.ref b33), .val (.long (((own_mix (own_g s1)).toUInt64 >>> ((32 : Int32) &&& 0x3f).toInt64.toUInt64).toInt64)), .second, .unset, .unset, .unset, .unset, .unset, .unset, .unset] [])) _
      refine XS.aload X39.here hx rfl (hb hby at_39) rfl rfl ?_
      show Steps p.tables e below (T39.setTop (mkF m 41 #[.val (.long s1), .second, .val (.int p2), .val (.int B), .val (.ref b27), .val (.ref b33), .val (.long (((own_mix (own_g s1)).toUInt64 >>> ((32 : Int32) &&& 0x3f).toInt64.toUInt64).toInt64)), .second, .unset, .unset, .unset, .unset, .unset, .unset, .unset] [(.ref b27)])) _
      refine XS.iloadN X39.here hx rfl (hb hby at_41) rfl ?_
      show Steps p.tables e below (T39.setTop (mkF m 42 #[.val (.long s1), .second, .val (.int p2), .val (.int B), .val (.ref b27), .val (.ref b33), .val (.long (((own_mix (own_g s1)).toUInt64 >>> ((32 : Int32) &&& 0x3f).toInt64.toUInt64).toInt64)), .second, .unset, .unset, .unset, .unset, .unset, .unset, .unset] [(.int B), (.ref b27)])) _
      exact k)
  obtain ⟨cq42, kq42, qa42, qb42, qc42⟩ := isOf hZ rfl (cE2)
  obtain ⟨_, _, ⟨T42, L42, kk42, nn42⟩, -, X42, ⟨Lc42, hQ42, l42, y42, z42⟩, st42⟩ := X39.virtualBack hx (y := (⟨"org/edgehead/bench/SplitMix", "nextInt", "(I)I"⟩ : MethodName)) (z := (⟨"org/edgehead/bench/SplitMix", "nextInt", "(I)I"⟩ : MethodName)) hown (mvT hZ (hw _ (List.mem_of_getElem? (i := 24) rfl))) (mvT hZ (hw _ (List.mem_of_getElem? (i := 25) rfl))) (notFace_of_selects (args := #[]) (mvT hZ (hw _ (List.mem_of_getElem? (i := 27) rfl)))) (mvT hZ (hw _ (List.mem_of_getElem? (i := 27) rfl))) (mvT hZ (hw _ (List.mem_of_getElem? (i := 26) rfl))) (by decide) (backOf (W := 0) (rm4 l Z a0 hw [] b27 B s1 T39.heap n0 Y39 cF2 cE2 gA) hZ (hw _ (List.mem_of_getElem? (i := 28) rfl)) (hw _ (List.mem_of_getElem? (i := 7) rfl)) (by decide) (by decide)) qa42 qc42 (g := (mkF m 42 #[.val (.long s1), .second, .val (.int p2), .val (.int B), .val (.ref b27), .val (.ref b33), .val (.long (((own_mix (own_g s1)).toUInt64 >>> ((32 : Int32) &&& 0x3f).toInt64.toUInt64).toInt64)), .second, .unset, .unset, .unset, .unset, .unset, .unset, .unset] [(.int B), (.ref b27)])) rfl (by rw [hml]; rfl) (Steps.refl _) (argsL := [(.int B)]) (rest := []) (lenOf pd__I_I rfl) rfl (by show 2 * 0 + _ ≤ _; exact Nat.le_of_eq rfl) (hb hby at_42) (fun _ _ => ⟨rfl, rfl, (by decide : 2 + 0 ≤ _), (by decide : 2 + 0 ≤ _)⟩)
  dsimp only [Pt.U, Pt.locs, Pt.cells, Pt.slots] at X42 l42 y42 z42 st42 hQ42
  subst l42 y42 z42
  obtain ⟨rfl, Nq42, K42, EE42, FF42⟩ := hQ42
  have N42 := Fr.app N39 Nq42
  have q43 : ∀ t, Steps p.tables e below (T42.setTop (mkF m 45 #[.val (.long s1), .second, .val (.int p2), .val (.int B), .val (.ref b27), .val (.ref b33), .val (.long (((own_mix (own_g s1)).toUInt64 >>> ((32 : Int32) &&& 0x3f).toInt64.toUInt64).toInt64)), .second, .unset, .unset, .unset, .unset, .unset, .unset, .unset] [(.int (own_r (own_mix (own_g s1)) B))])) t → Steps p.tables e below (s₁.setTop (entryFrame m #[(.long s1), (.int p2)] maxLocals)) t := fun t k => q41 t (st42.trans k)
  have Y42 : n0 ≤ T42.heap.size := Nat.le_trans Y39 K42.1
  have cE3 := Exa.keep EE39 K42
  have cF3 := Fld.keep FF39 K42 (ninS nAB.symm nin0)
  have hl := own_law (own_mix (own_g s1)) B hB
  have q44 : ∀ t, Steps p.tables e below (T42.setTop (mkF m 105 #[.val (.long s1), .second, .val (.int p2), .val (.int B), .val (.ref b27), .val (.ref b33), .val (.long (((own_mix (own_g s1)).toUInt64 >>> ((32 : Int32) &&& 0x3f).toInt64.toUInt64).toInt64)), .second, .val (.int (own_r (own_mix (own_g s1)) B)), .val (.long ((((own_mix (own_g s1)).toUInt64 >>> ((32 : Int32) &&& 0x3f).toInt64.toUInt64).toInt64) * (B.toInt64))), .second, .val (.long (((own_r (own_mix (own_g s1)) B).toInt64) <<< ((32 : Int32) &&& 0x3f).toInt64)), .second, .val (.long ((((own_r (own_mix (own_g s1)) B) + (1 : Int32)).toInt64) <<< ((32 : Int32) &&& 0x3f).toInt64)), .second] [(.ref b27)])) t → Steps p.tables e below (s₁.setTop (entryFrame m #[(.long s1), (.int p2)] maxLocals)) t := fun t k => q43 t (by
      show Steps p.tables e below (T42.setTop (mkF m 45 #[.val (.long s1), .second, .val (.int p2), .val (.int B), .val (.ref b27), .val (.ref b33), .val (.long (((own_mix (own_g s1)).toUInt64 >>> ((32 : Int32) &&& 0x3f).toInt64.toUInt64).toInt64)), .second, .unset, .unset, .unset, .unset, .unset, .unset, .unset] [(.int (own_r (own_mix (own_g s1)) B))])) _
      refine XS.istore X42.here hx rfl (hb hby at_45) rfl (l' := #[.val (.long s1), .second, .val (.int p2), .val (.int B), .val (.ref b27), .val (.ref b33), .val (.long (((own_mix (own_g s1)).toUInt64 >>> ((32 : Int32) &&& 0x3f).toInt64.toUInt64).toInt64)), .second, .val (.int (own_r (own_mix (own_g s1)) B)), .unset, .unset, .unset, .unset, .unset, .unset]) rfl ?_
      show Steps p.tables e below (T42.setTop (mkF m 47 #[.val (.long s1), .second, .val (.int p2), .val (.int B), .val (.ref b27), .val (.ref b33), .val (.long (((own_mix (own_g s1)).toUInt64 >>> ((32 : Int32) &&& 0x3f).toInt64.toUInt64).toInt64)), .second, .val (.int (own_r (own_mix (own_g s1)) B)), .unset, .unset, .unset, .unset, .unset, .unset] [])) _
      refine XS.iload X42.here hx rfl (hb hby at_47) rfl ?_
      show Steps p.tables e below (T42.setTop (mkF m 49 #[.val (.long s1), .second, .val (.int p2), .val (.int B), .val (.ref b27), .val (.ref b33), .val (.long (((own_mix (own_g s1)).toUInt64 >>> ((32 : Int32) &&& 0x3f).toInt64.toUInt64).toInt64)), .second, .val (.int (own_r (own_mix (own_g s1)) B)), .unset, .unset, .unset, .unset, .unset, .unset] [(.int (own_r (own_mix (own_g s1)) B))])) _
      refine XS.ifNo X42.here hx rfl (hb hby at_49) rfl (XT.i0_lt_f (hl.1 : ¬ ((own_r (own_mix (own_g s1)) B) < (0 : Int32)))) ?_
      show Steps p.tables e below (T42.setTop (mkF m 52 #[.val (.long s1), .second, .val (.int p2), .val (.int B), .val (.ref b27), .val (.ref b33), .val (.long (((own_mix (own_g s1)).toUInt64 >>> ((32 : Int32) &&& 0x3f).toInt64.toUInt64).toInt64)), .second, .val (.int (own_r (own_mix (own_g s1)) B)), .unset, .unset, .unset, .unset, .unset, .unset] [])) _
      refine XS.iload X42.here hx rfl (hb hby at_52) rfl ?_
      show Steps p.tables e below (T42.setTop (mkF m 54 #[.val (.long s1), .second, .val (.int p2), .val (.int B), .val (.ref b27), .val (.ref b33), .val (.long (((own_mix (own_g s1)).toUInt64 >>> ((32 : Int32) &&& 0x3f).toInt64.toUInt64).toInt64)), .second, .val (.int (own_r (own_mix (own_g s1)) B)), .unset, .unset, .unset, .unset, .unset, .unset] [(.int (own_r (own_mix (own_g s1)) B))])) _
      refine XS.iloadN X42.here hx rfl (hb hby at_54) rfl ?_
      show Steps p.tables e below (T42.setTop (mkF m 55 #[.val (.long s1), .second, .val (.int p2), .val (.int B), .val (.ref b27), .val (.ref b33), .val (.long (((own_mix (own_g s1)).toUInt64 >>> ((32 : Int32) &&& 0x3f).toInt64.toUInt64).toInt64)), .second, .val (.int (own_r (own_mix (own_g s1)) B)), .unset, .unset, .unset, .unset, .unset, .unset] [(.int B), (.int (own_r (own_mix (own_g s1)) B))])) _
      refine XS.icmpYes X42.here hx rfl (pc0 := 55) (pc' := 60) rfl (hb hby at_55) rfl (XT.ii_lt_t (hl.2.1 : (own_r (own_mix (own_g s1)) B) < B)) (by decide) (by decide) ?_
      show Steps p.tables e below (T42.setTop (mkF m 60 #[.val (.long s1), .second, .val (.int p2), .val (.int B), .val (.ref b27), .val (.ref b33), .val (.long (((own_mix (own_g s1)).toUInt64 >>> ((32 : Int32) &&& 0x3f).toInt64.toUInt64).toInt64)), .second, .val (.int (own_r (own_mix (own_g s1)) B)), .unset, .unset, .unset, .unset, .unset, .unset] [])) _
      refine XS.lload X42.here hx rfl (hb hby at_60) rfl ?_
      show Steps p.tables e below (T42.setTop (mkF m 62 #[.val (.long s1), .second, .val (.int p2), .val (.int B), .val (.ref b27), .val (.ref b33), .val (.long (((own_mix (own_g s1)).toUInt64 >>> ((32 : Int32) &&& 0x3f).toInt64.toUInt64).toInt64)), .second, .val (.int (own_r (own_mix (own_g s1)) B)), .unset, .unset, .unset, .unset, .unset, .unset] [(.long (((own_mix (own_g s1)).toUInt64 >>> ((32 : Int32) &&& 0x3f).toInt64.toUInt64).toInt64))])) _
      refine XS.iloadN X42.here hx rfl (hb hby at_62) rfl ?_
      show Steps p.tables e below (T42.setTop (mkF m 63 #[.val (.long s1), .second, .val (.int p2), .val (.int B), .val (.ref b27), .val (.ref b33), .val (.long (((own_mix (own_g s1)).toUInt64 >>> ((32 : Int32) &&& 0x3f).toInt64.toUInt64).toInt64)), .second, .val (.int (own_r (own_mix (own_g s1)) B)), .unset, .unset, .unset, .unset, .unset, .unset] [(.int B), (.long (((own_mix (own_g s1)).toUInt64 >>> ((32 : Int32) &&& 0x3f).toInt64.toUInt64).toInt64))])) _
      refine XS.i2l X42.here hx rfl (hb hby at_63) rfl ?_
      show Steps p.tables e below (T42.setTop (mkF m 64 #[.val (.long s1), .second, .val (.int p2), .val (.int B), .val (.ref b27), .val (.ref b33), .val (.long (((own_mix (own_g s1)).toUInt64 >>> ((32 : Int32) &&& 0x3f).toInt64.toUInt64).toInt64)), .second, .val (.int (own_r (own_mix (own_g s1)) B)), .unset, .unset, .unset, .unset, .unset, .unset] [(.long (B.toInt64)), (.long (((own_mix (own_g s1)).toUInt64 >>> ((32 : Int32) &&& 0x3f).toInt64.toUInt64).toInt64))])) _
      refine XS.lmul X42.here hx rfl (hb hby at_64) rfl ?_
      show Steps p.tables e below (T42.setTop (mkF m 65 #[.val (.long s1), .second, .val (.int p2), .val (.int B), .val (.ref b27), .val (.ref b33), .val (.long (((own_mix (own_g s1)).toUInt64 >>> ((32 : Int32) &&& 0x3f).toInt64.toUInt64).toInt64)), .second, .val (.int (own_r (own_mix (own_g s1)) B)), .unset, .unset, .unset, .unset, .unset, .unset] [(.long ((((own_mix (own_g s1)).toUInt64 >>> ((32 : Int32) &&& 0x3f).toInt64.toUInt64).toInt64) * (B.toInt64)))])) _
      refine XS.lstore X42.here hx rfl (hb hby at_65) rfl (l' := #[.val (.long s1), .second, .val (.int p2), .val (.int B), .val (.ref b27), .val (.ref b33), .val (.long (((own_mix (own_g s1)).toUInt64 >>> ((32 : Int32) &&& 0x3f).toInt64.toUInt64).toInt64)), .second, .val (.int (own_r (own_mix (own_g s1)) B)), .val (.long ((((own_mix (own_g s1)).toUInt64 >>> ((32 : Int32) &&& 0x3f).toInt64.toUInt64).toInt64) * (B.toInt64))), .second, .unset, .unset, .unset, .unset]) rfl ?_
      show Steps p.tables e below (T42.setTop (mkF m 67 #[.val (.long s1), .second, .val (.int p2), .val (.int B), .val (.ref b27), .val (.ref b33), .val (.long (((own_mix (own_g s1)).toUInt64 >>> ((32 : Int32) &&& 0x3f).toInt64.toUInt64).toInt64)), .second, .val (.int (own_r (own_mix (own_g s1)) B)), .val (.long ((((own_mix (own_g s1)).toUInt64 >>> ((32 : Int32) &&& 0x3f).toInt64.toUInt64).toInt64) * (B.toInt64))), .second, .unset, .unset, .unset, .unset] [])) _
      refine XS.iload X42.here hx rfl (hb hby at_67) rfl ?_
      show Steps p.tables e below (T42.setTop (mkF m 69 #[.val (.long s1), .second, .val (.int p2), .val (.int B), .val (.ref b27), .val (.ref b33), .val (.long (((own_mix (own_g s1)).toUInt64 >>> ((32 : Int32) &&& 0x3f).toInt64.toUInt64).toInt64)), .second, .val (.int (own_r (own_mix (own_g s1)) B)), .val (.long ((((own_mix (own_g s1)).toUInt64 >>> ((32 : Int32) &&& 0x3f).toInt64.toUInt64).toInt64) * (B.toInt64))), .second, .unset, .unset, .unset, .unset] [(.int (own_r (own_mix (own_g s1)) B))])) _
      refine XS.i2l X42.here hx rfl (hb hby at_69) rfl ?_
      show Steps p.tables e below (T42.setTop (mkF m 70 #[.val (.long s1), .second, .val (.int p2), .val (.int B), .val (.ref b27), .val (.ref b33), .val (.long (((own_mix (own_g s1)).toUInt64 >>> ((32 : Int32) &&& 0x3f).toInt64.toUInt64).toInt64)), .second, .val (.int (own_r (own_mix (own_g s1)) B)), .val (.long ((((own_mix (own_g s1)).toUInt64 >>> ((32 : Int32) &&& 0x3f).toInt64.toUInt64).toInt64) * (B.toInt64))), .second, .unset, .unset, .unset, .unset] [(.long ((own_r (own_mix (own_g s1)) B).toInt64))])) _
      refine XS.bipush X42.here hx rfl (hb hby at_70) ?_
      show Steps p.tables e below (T42.setTop (mkF m 72 #[.val (.long s1), .second, .val (.int p2), .val (.int B), .val (.ref b27), .val (.ref b33), .val (.long (((own_mix (own_g s1)).toUInt64 >>> ((32 : Int32) &&& 0x3f).toInt64.toUInt64).toInt64)), .second, .val (.int (own_r (own_mix (own_g s1)) B)), .val (.long ((((own_mix (own_g s1)).toUInt64 >>> ((32 : Int32) &&& 0x3f).toInt64.toUInt64).toInt64) * (B.toInt64))), .second, .unset, .unset, .unset, .unset] [(.int (32 : Int32)), (.long ((own_r (own_mix (own_g s1)) B).toInt64))])) _
      refine XS.lshl X42.here hx rfl (hb hby at_72) rfl ?_
      show Steps p.tables e below (T42.setTop (mkF m 73 #[.val (.long s1), .second, .val (.int p2), .val (.int B), .val (.ref b27), .val (.ref b33), .val (.long (((own_mix (own_g s1)).toUInt64 >>> ((32 : Int32) &&& 0x3f).toInt64.toUInt64).toInt64)), .second, .val (.int (own_r (own_mix (own_g s1)) B)), .val (.long ((((own_mix (own_g s1)).toUInt64 >>> ((32 : Int32) &&& 0x3f).toInt64.toUInt64).toInt64) * (B.toInt64))), .second, .unset, .unset, .unset, .unset] [(.long (((own_r (own_mix (own_g s1)) B).toInt64) <<< ((32 : Int32) &&& 0x3f).toInt64))])) _
      refine XS.lstore X42.here hx rfl (hb hby at_73) rfl (l' := #[.val (.long s1), .second, .val (.int p2), .val (.int B), .val (.ref b27), .val (.ref b33), .val (.long (((own_mix (own_g s1)).toUInt64 >>> ((32 : Int32) &&& 0x3f).toInt64.toUInt64).toInt64)), .second, .val (.int (own_r (own_mix (own_g s1)) B)), .val (.long ((((own_mix (own_g s1)).toUInt64 >>> ((32 : Int32) &&& 0x3f).toInt64.toUInt64).toInt64) * (B.toInt64))), .second, .val (.long (((own_r (own_mix (own_g s1)) B).toInt64) <<< ((32 : Int32) &&& 0x3f).toInt64)), .second, .unset, .unset]) rfl ?_
      show Steps p.tables e below (T42.setTop (mkF m 75 #[.val (.long s1), .second, .val (.int p2), .val (.int B), .val (.ref b27), .val (.ref b33), .val (.long (((own_mix (own_g s1)).toUInt64 >>> ((32 : Int32) &&& 0x3f).toInt64.toUInt64).toInt64)), .second, .val (.int (own_r (own_mix (own_g s1)) B)), .val (.long ((((own_mix (own_g s1)).toUInt64 >>> ((32 : Int32) &&& 0x3f).toInt64.toUInt64).toInt64) * (B.toInt64))), .second, .val (.long (((own_r (own_mix (own_g s1)) B).toInt64) <<< ((32 : Int32) &&& 0x3f).toInt64)), .second, .unset, .unset] [])) _
      refine XS.iload X42.here hx rfl (hb hby at_75) rfl ?_
      show Steps p.tables e below (T42.setTop (mkF m 77 #[.val (.long s1), .second, .val (.int p2), .val (.int B), .val (.ref b27), .val (.ref b33), .val (.long (((own_mix (own_g s1)).toUInt64 >>> ((32 : Int32) &&& 0x3f).toInt64.toUInt64).toInt64)), .second, .val (.int (own_r (own_mix (own_g s1)) B)), .val (.long ((((own_mix (own_g s1)).toUInt64 >>> ((32 : Int32) &&& 0x3f).toInt64.toUInt64).toInt64) * (B.toInt64))), .second, .val (.long (((own_r (own_mix (own_g s1)) B).toInt64) <<< ((32 : Int32) &&& 0x3f).toInt64)), .second, .unset, .unset] [(.int (own_r (own_mix (own_g s1)) B))])) _
      refine XS.iconst X42.here hx rfl (hb hby at_77) ?_
      show Steps p.tables e below (T42.setTop (mkF m 78 #[.val (.long s1), .second, .val (.int p2), .val (.int B), .val (.ref b27), .val (.ref b33), .val (.long (((own_mix (own_g s1)).toUInt64 >>> ((32 : Int32) &&& 0x3f).toInt64.toUInt64).toInt64)), .second, .val (.int (own_r (own_mix (own_g s1)) B)), .val (.long ((((own_mix (own_g s1)).toUInt64 >>> ((32 : Int32) &&& 0x3f).toInt64.toUInt64).toInt64) * (B.toInt64))), .second, .val (.long (((own_r (own_mix (own_g s1)) B).toInt64) <<< ((32 : Int32) &&& 0x3f).toInt64)), .second, .unset, .unset] [(.int (1 : Int32)), (.int (own_r (own_mix (own_g s1)) B))])) _
      refine XS.iadd X42.here hx rfl (hb hby at_78) rfl ?_
      show Steps p.tables e below (T42.setTop (mkF m 79 #[.val (.long s1), .second, .val (.int p2), .val (.int B), .val (.ref b27), .val (.ref b33), .val (.long (((own_mix (own_g s1)).toUInt64 >>> ((32 : Int32) &&& 0x3f).toInt64.toUInt64).toInt64)), .second, .val (.int (own_r (own_mix (own_g s1)) B)), .val (.long ((((own_mix (own_g s1)).toUInt64 >>> ((32 : Int32) &&& 0x3f).toInt64.toUInt64).toInt64) * (B.toInt64))), .second, .val (.long (((own_r (own_mix (own_g s1)) B).toInt64) <<< ((32 : Int32) &&& 0x3f).toInt64)), .second, .unset, .unset] [(.int ((own_r (own_mix (own_g s1)) B) + (1 : Int32)))])) _
      refine XS.i2l X42.here hx rfl (hb hby at_79) rfl ?_
      show Steps p.tables e below (T42.setTop (mkF m 80 #[.val (.long s1), .second, .val (.int p2), .val (.int B), .val (.ref b27), .val (.ref b33), .val (.long (((own_mix (own_g s1)).toUInt64 >>> ((32 : Int32) &&& 0x3f).toInt64.toUInt64).toInt64)), .second, .val (.int (own_r (own_mix (own_g s1)) B)), .val (.long ((((own_mix (own_g s1)).toUInt64 >>> ((32 : Int32) &&& 0x3f).toInt64.toUInt64).toInt64) * (B.toInt64))), .second, .val (.long (((own_r (own_mix (own_g s1)) B).toInt64) <<< ((32 : Int32) &&& 0x3f).toInt64)), .second, .unset, .unset] [(.long (((own_r (own_mix (own_g s1)) B) + (1 : Int32)).toInt64))])) _
      refine XS.bipush X42.here hx rfl (hb hby at_80) ?_
      show Steps p.tables e below (T42.setTop (mkF m 82 #[.val (.long s1), .second, .val (.int p2), .val (.int B), .val (.ref b27), .val (.ref b33), .val (.long (((own_mix (own_g s1)).toUInt64 >>> ((32 : Int32) &&& 0x3f).toInt64.toUInt64).toInt64)), .second, .val (.int (own_r (own_mix (own_g s1)) B)), .val (.long ((((own_mix (own_g s1)).toUInt64 >>> ((32 : Int32) &&& 0x3f).toInt64.toUInt64).toInt64) * (B.toInt64))), .second, .val (.long (((own_r (own_mix (own_g s1)) B).toInt64) <<< ((32 : Int32) &&& 0x3f).toInt64)), .second, .unset, .unset] [(.int (32 : Int32)), (.long (((own_r (own_mix (own_g s1)) B) + (1 : Int32)).toInt64))])) _
      refine XS.lshl X42.here hx rfl (hb hby at_82) rfl ?_
      show Steps p.tables e below (T42.setTop (mkF m 83 #[.val (.long s1), .second, .val (.int p2), .val (.int B), .val (.ref b27), .val (.ref b33), .val (.long (((own_mix (own_g s1)).toUInt64 >>> ((32 : Int32) &&& 0x3f).toInt64.toUInt64).toInt64)), .second, .val (.int (own_r (own_mix (own_g s1)) B)), .val (.long ((((own_mix (own_g s1)).toUInt64 >>> ((32 : Int32) &&& 0x3f).toInt64.toUInt64).toInt64) * (B.toInt64))), .second, .val (.long (((own_r (own_mix (own_g s1)) B).toInt64) <<< ((32 : Int32) &&& 0x3f).toInt64)), .second, .unset, .unset] [(.long ((((own_r (own_mix (own_g s1)) B) + (1 : Int32)).toInt64) <<< ((32 : Int32) &&& 0x3f).toInt64))])) _
      refine XS.lstore X42.here hx rfl (hb hby at_83) rfl (l' := #[.val (.long s1), .second, .val (.int p2), .val (.int B), .val (.ref b27), .val (.ref b33), .val (.long (((own_mix (own_g s1)).toUInt64 >>> ((32 : Int32) &&& 0x3f).toInt64.toUInt64).toInt64)), .second, .val (.int (own_r (own_mix (own_g s1)) B)), .val (.long ((((own_mix (own_g s1)).toUInt64 >>> ((32 : Int32) &&& 0x3f).toInt64.toUInt64).toInt64) * (B.toInt64))), .second, .val (.long (((own_r (own_mix (own_g s1)) B).toInt64) <<< ((32 : Int32) &&& 0x3f).toInt64)), .second, .val (.long ((((own_r (own_mix (own_g s1)) B) + (1 : Int32)).toInt64) <<< ((32 : Int32) &&& 0x3f).toInt64)), .second]) rfl ?_
      show Steps p.tables e below (T42.setTop (mkF m 85 #[.val (.long s1), .second, .val (.int p2), .val (.int B), .val (.ref b27), .val (.ref b33), .val (.long (((own_mix (own_g s1)).toUInt64 >>> ((32 : Int32) &&& 0x3f).toInt64.toUInt64).toInt64)), .second, .val (.int (own_r (own_mix (own_g s1)) B)), .val (.long ((((own_mix (own_g s1)).toUInt64 >>> ((32 : Int32) &&& 0x3f).toInt64.toUInt64).toInt64) * (B.toInt64))), .second, .val (.long (((own_r (own_mix (own_g s1)) B).toInt64) <<< ((32 : Int32) &&& 0x3f).toInt64)), .second, .val (.long ((((own_r (own_mix (own_g s1)) B) + (1 : Int32)).toInt64) <<< ((32 : Int32) &&& 0x3f).toInt64)), .second] [])) _
      refine XS.lload X42.here hx rfl (hb hby at_85) rfl ?_
      show Steps p.tables e below (T42.setTop (mkF m 87 #[.val (.long s1), .second, .val (.int p2), .val (.int B), .val (.ref b27), .val (.ref b33), .val (.long (((own_mix (own_g s1)).toUInt64 >>> ((32 : Int32) &&& 0x3f).toInt64.toUInt64).toInt64)), .second, .val (.int (own_r (own_mix (own_g s1)) B)), .val (.long ((((own_mix (own_g s1)).toUInt64 >>> ((32 : Int32) &&& 0x3f).toInt64.toUInt64).toInt64) * (B.toInt64))), .second, .val (.long (((own_r (own_mix (own_g s1)) B).toInt64) <<< ((32 : Int32) &&& 0x3f).toInt64)), .second, .val (.long ((((own_r (own_mix (own_g s1)) B) + (1 : Int32)).toInt64) <<< ((32 : Int32) &&& 0x3f).toInt64)), .second] [(.long (((own_r (own_mix (own_g s1)) B).toInt64) <<< ((32 : Int32) &&& 0x3f).toInt64))])) _
      refine XS.lload X42.here hx rfl (hb hby at_87) rfl ?_
      show Steps p.tables e below (T42.setTop (mkF m 89 #[.val (.long s1), .second, .val (.int p2), .val (.int B), .val (.ref b27), .val (.ref b33), .val (.long (((own_mix (own_g s1)).toUInt64 >>> ((32 : Int32) &&& 0x3f).toInt64.toUInt64).toInt64)), .second, .val (.int (own_r (own_mix (own_g s1)) B)), .val (.long ((((own_mix (own_g s1)).toUInt64 >>> ((32 : Int32) &&& 0x3f).toInt64.toUInt64).toInt64) * (B.toInt64))), .second, .val (.long (((own_r (own_mix (own_g s1)) B).toInt64) <<< ((32 : Int32) &&& 0x3f).toInt64)), .second, .val (.long ((((own_r (own_mix (own_g s1)) B) + (1 : Int32)).toInt64) <<< ((32 : Int32) &&& 0x3f).toInt64)), .second] [(.long ((((own_mix (own_g s1)).toUInt64 >>> ((32 : Int32) &&& 0x3f).toInt64.toUInt64).toInt64) * (B.toInt64))), (.long (((own_r (own_mix (own_g s1)) B).toInt64) <<< ((32 : Int32) &&& 0x3f).toInt64))])) _
      refine XT.lcmp X42.here hx rfl (hb hby at_89) rfl ?_
      show Steps p.tables e below (T42.setTop (mkF m 90 #[.val (.long s1), .second, .val (.int p2), .val (.int B), .val (.ref b27), .val (.ref b33), .val (.long (((own_mix (own_g s1)).toUInt64 >>> ((32 : Int32) &&& 0x3f).toInt64.toUInt64).toInt64)), .second, .val (.int (own_r (own_mix (own_g s1)) B)), .val (.long ((((own_mix (own_g s1)).toUInt64 >>> ((32 : Int32) &&& 0x3f).toInt64.toUInt64).toInt64) * (B.toInt64))), .second, .val (.long (((own_r (own_mix (own_g s1)) B).toInt64) <<< ((32 : Int32) &&& 0x3f).toInt64)), .second, .val (.long ((((own_r (own_mix (own_g s1)) B) + (1 : Int32)).toInt64) <<< ((32 : Int32) &&& 0x3f).toInt64)), .second] [(.int (XT.cmpL (((own_r (own_mix (own_g s1)) B).toInt64) <<< ((32 : Int32) &&& 0x3f).toInt64) ((((own_mix (own_g s1)).toUInt64 >>> ((32 : Int32) &&& 0x3f).toInt64.toUInt64).toInt64) * (B.toInt64))))])) _
      refine XS.ifNo X42.here hx rfl (hb hby at_90) rfl (XT.ll_gt_f (hl.2.2.1 : ¬ (((((own_mix (own_g s1)).toUInt64 >>> ((32 : Int32) &&& 0x3f).toInt64.toUInt64).toInt64) * (B.toInt64)) < (((own_r (own_mix (own_g s1)) B).toInt64) <<< ((32 : Int32) &&& 0x3f).toInt64)))) ?_
      show Steps p.tables e below (T42.setTop (mkF m 93 #[.val (.long s1), .second, .val (.int p2), .val (.int B), .val (.ref b27), .val (.ref b33), .val (.long (((own_mix (own_g s1)).toUInt64 >>> ((32 : Int32) &&& 0x3f).toInt64.toUInt64).toInt64)), .second, .val (.int (own_r (own_mix (own_g s1)) B)), .val (.long ((((own_mix (own_g s1)).toUInt64 >>> ((32 : Int32) &&& 0x3f).toInt64.toUInt64).toInt64) * (B.toInt64))), .second, .val (.long (((own_r (own_mix (own_g s1)) B).toInt64) <<< ((32 : Int32) &&& 0x3f).toInt64)), .second, .val (.long ((((own_r (own_mix (own_g s1)) B) + (1 : Int32)).toInt64) <<< ((32 : Int32) &&& 0x3f).toInt64)), .second] [])) _
      refine XS.lload X42.here hx rfl (hb hby at_93) rfl ?_
      show Steps p.tables e below (T42.setTop (mkF m 95 #[.val (.long s1), .second, .val (.int p2), .val (.int B), .val (.ref b27), .val (.ref b33), .val (.long (((own_mix (own_g s1)).toUInt64 >>> ((32 : Int32) &&& 0x3f).toInt64.toUInt64).toInt64)), .second, .val (.int (own_r (own_mix (own_g s1)) B)), .val (.long ((((own_mix (own_g s1)).toUInt64 >>> ((32 : Int32) &&& 0x3f).toInt64.toUInt64).toInt64) * (B.toInt64))), .second, .val (.long (((own_r (own_mix (own_g s1)) B).toInt64) <<< ((32 : Int32) &&& 0x3f).toInt64)), .second, .val (.long ((((own_r (own_mix (own_g s1)) B) + (1 : Int32)).toInt64) <<< ((32 : Int32) &&& 0x3f).toInt64)), .second] [(.long ((((own_mix (own_g s1)).toUInt64 >>> ((32 : Int32) &&& 0x3f).toInt64.toUInt64).toInt64) * (B.toInt64)))])) _
      refine XS.lload X42.here hx rfl (hb hby at_95) rfl ?_
      show Steps p.tables e below (T42.setTop (mkF m 97 #[.val (.long s1), .second, .val (.int p2), .val (.int B), .val (.ref b27), .val (.ref b33), .val (.long (((own_mix (own_g s1)).toUInt64 >>> ((32 : Int32) &&& 0x3f).toInt64.toUInt64).toInt64)), .second, .val (.int (own_r (own_mix (own_g s1)) B)), .val (.long ((((own_mix (own_g s1)).toUInt64 >>> ((32 : Int32) &&& 0x3f).toInt64.toUInt64).toInt64) * (B.toInt64))), .second, .val (.long (((own_r (own_mix (own_g s1)) B).toInt64) <<< ((32 : Int32) &&& 0x3f).toInt64)), .second, .val (.long ((((own_r (own_mix (own_g s1)) B) + (1 : Int32)).toInt64) <<< ((32 : Int32) &&& 0x3f).toInt64)), .second] [(.long ((((own_r (own_mix (own_g s1)) B) + (1 : Int32)).toInt64) <<< ((32 : Int32) &&& 0x3f).toInt64)), (.long ((((own_mix (own_g s1)).toUInt64 >>> ((32 : Int32) &&& 0x3f).toInt64.toUInt64).toInt64) * (B.toInt64)))])) _
      refine XT.lcmp X42.here hx rfl (hb hby at_97) rfl ?_
      show Steps p.tables e below (T42.setTop (mkF m 98 #[.val (.long s1), .second, .val (.int p2), .val (.int B), .val (.ref b27), .val (.ref b33), .val (.long (((own_mix (own_g s1)).toUInt64 >>> ((32 : Int32) &&& 0x3f).toInt64.toUInt64).toInt64)), .second, .val (.int (own_r (own_mix (own_g s1)) B)), .val (.long ((((own_mix (own_g s1)).toUInt64 >>> ((32 : Int32) &&& 0x3f).toInt64.toUInt64).toInt64) * (B.toInt64))), .second, .val (.long (((own_r (own_mix (own_g s1)) B).toInt64) <<< ((32 : Int32) &&& 0x3f).toInt64)), .second, .val (.long ((((own_r (own_mix (own_g s1)) B) + (1 : Int32)).toInt64) <<< ((32 : Int32) &&& 0x3f).toInt64)), .second] [(.int (XT.cmpL ((((own_mix (own_g s1)).toUInt64 >>> ((32 : Int32) &&& 0x3f).toInt64.toUInt64).toInt64) * (B.toInt64)) ((((own_r (own_mix (own_g s1)) B) + (1 : Int32)).toInt64) <<< ((32 : Int32) &&& 0x3f).toInt64)))])) _
      refine XS.ifYes X42.here hx rfl (pc0 := 98) (pc' := 103) rfl (hb hby at_98) rfl (XT.ll_lt_t (hl.2.2.2 : ((((own_mix (own_g s1)).toUInt64 >>> ((32 : Int32) &&& 0x3f).toInt64.toUInt64).toInt64) * (B.toInt64)) < ((((own_r (own_mix (own_g s1)) B) + (1 : Int32)).toInt64) <<< ((32 : Int32) &&& 0x3f).toInt64))) (by decide) (by decide) ?_
      show Steps p.tables e below (T42.setTop (mkF m 103 #[.val (.long s1), .second, .val (.int p2), .val (.int B), .val (.ref b27), .val (.ref b33), .val (.long (((own_mix (own_g s1)).toUInt64 >>> ((32 : Int32) &&& 0x3f).toInt64.toUInt64).toInt64)), .second, .val (.int (own_r (own_mix (own_g s1)) B)), .val (.long ((((own_mix (own_g s1)).toUInt64 >>> ((32 : Int32) &&& 0x3f).toInt64.toUInt64).toInt64) * (B.toInt64))), .second, .val (.long (((own_r (own_mix (own_g s1)) B).toInt64) <<< ((32 : Int32) &&& 0x3f).toInt64)), .second, .val (.long ((((own_r (own_mix (own_g s1)) B) + (1 : Int32)).toInt64) <<< ((32 : Int32) &&& 0x3f).toInt64)), .second] [])) _
      refine XS.aload X42.here hx rfl (hb hby at_103) rfl rfl ?_
      show Steps p.tables e below (T42.setTop (mkF m 105 #[.val (.long s1), .second, .val (.int p2), .val (.int B), .val (.ref b27), .val (.ref b33), .val (.long (((own_mix (own_g s1)).toUInt64 >>> ((32 : Int32) &&& 0x3f).toInt64.toUInt64).toInt64)), .second, .val (.int (own_r (own_mix (own_g s1)) B)), .val (.long ((((own_mix (own_g s1)).toUInt64 >>> ((32 : Int32) &&& 0x3f).toInt64.toUInt64).toInt64) * (B.toInt64))), .second, .val (.long (((own_r (own_mix (own_g s1)) B).toInt64) <<< ((32 : Int32) &&& 0x3f).toInt64)), .second, .val (.long ((((own_r (own_mix (own_g s1)) B) + (1 : Int32)).toInt64) <<< ((32 : Int32) &&& 0x3f).toInt64)), .second] [(.ref b27)])) _
      exact k)
  obtain ⟨cq45, kq45, qa45, qb45, qc45⟩ := isOf hZ rfl (EE42)
  obtain ⟨_, _, ⟨T45, L45, kk45, nn45⟩, -, X45, ⟨Lc45, hQ45, l45, y45, z45⟩, st45⟩ := X42.virtualBack hx (y := (⟨"org/edgehead/bench/SplitMix", "nextLong", "()J"⟩ : MethodName)) (z := (⟨"org/edgehead/bench/SplitMix", "nextLong", "()J"⟩ : MethodName)) hown (mvT hZ (hw _ (List.mem_of_getElem? (i := 16) rfl))) (mvT hZ (hw _ (List.mem_of_getElem? (i := 17) rfl))) (notFace_of_selects (args := #[]) (mvT hZ (hw _ (List.mem_of_getElem? (i := 19) rfl)))) (mvT hZ (hw _ (List.mem_of_getElem? (i := 19) rfl))) (mvT hZ (hw _ (List.mem_of_getElem? (i := 18) rfl))) (by decide) (backOf (W := 0) (rm3 l Z a0 hw [] b27 (own_g s1) T42.heap n0 Y42 FF42 EE42 gA) hZ (hw _ (List.mem_of_getElem? (i := 20) rfl)) (hw _ (List.mem_of_getElem? (i := 7) rfl)) (by decide) (by decide)) qa45 qc45 (g := (mkF m 105 #[.val (.long s1), .second, .val (.int p2), .val (.int B), .val (.ref b27), .val (.ref b33), .val (.long (((own_mix (own_g s1)).toUInt64 >>> ((32 : Int32) &&& 0x3f).toInt64.toUInt64).toInt64)), .second, .val (.int (own_r (own_mix (own_g s1)) B)), .val (.long ((((own_mix (own_g s1)).toUInt64 >>> ((32 : Int32) &&& 0x3f).toInt64.toUInt64).toInt64) * (B.toInt64))), .second, .val (.long (((own_r (own_mix (own_g s1)) B).toInt64) <<< ((32 : Int32) &&& 0x3f).toInt64)), .second, .val (.long ((((own_r (own_mix (own_g s1)) B) + (1 : Int32)).toInt64) <<< ((32 : Int32) &&& 0x3f).toInt64)), .second] [(.ref b27)])) rfl (by rw [hml]; rfl) (Steps.refl _) (argsL := []) (rest := []) (lenOf pd___J rfl) rfl (by show 2 * 0 + _ ≤ _; exact Nat.le_of_eq rfl) (hb hby at_105) (fun _ _ => ⟨rfl, rfl, (by decide : 2 + 0 ≤ _), (by decide : 2 + 0 ≤ _)⟩)
  dsimp only [Pt.U, Pt.locs, Pt.cells, Pt.slots] at X45 l45 y45 z45 st45 hQ45
  subst l45 y45 z45
  obtain ⟨rfl, Nq45, K45, EE45, FF45⟩ := hQ45
  have N45 := Fr.app N42 Nq45
  have q46 : ∀ t, Steps p.tables e below (T45.setTop (mkF m 108 #[.val (.long s1), .second, .val (.int p2), .val (.int B), .val (.ref b27), .val (.ref b33), .val (.long (((own_mix (own_g s1)).toUInt64 >>> ((32 : Int32) &&& 0x3f).toInt64.toUInt64).toInt64)), .second, .val (.int (own_r (own_mix (own_g s1)) B)), .val (.long ((((own_mix (own_g s1)).toUInt64 >>> ((32 : Int32) &&& 0x3f).toInt64.toUInt64).toInt64) * (B.toInt64))), .second, .val (.long (((own_r (own_mix (own_g s1)) B).toInt64) <<< ((32 : Int32) &&& 0x3f).toInt64)), .second, .val (.long ((((own_r (own_mix (own_g s1)) B) + (1 : Int32)).toInt64) <<< ((32 : Int32) &&& 0x3f).toInt64)), .second] [(.long (own_mix (own_g (own_g s1))))])) t → Steps p.tables e below (s₁.setTop (entryFrame m #[(.long s1), (.int p2)] maxLocals)) t := fun t k => q44 t (st45.trans k)
  have Y45 : n0 ≤ T45.heap.size := Nat.le_trans Y42 K45.1
  have cE4 := Exa.keep cE3 K45
  have cF4 := Fld.keep cF3 K45 (ninS nAB.symm nin0)
  have q47 : ∀ t, Steps p.tables e below (T45.setTop (mkF m 110 #[.val (.long s1), .second, .val (.int p2), .val (.int B), .val (.ref b27), .val (.ref b33), .val (.long (((own_mix (own_g s1)).toUInt64 >>> ((32 : Int32) &&& 0x3f).toInt64.toUInt64).toInt64)), .second, .val (.int (own_r (own_mix (own_g s1)) B)), .val (.long ((((own_mix (own_g s1)).toUInt64 >>> ((32 : Int32) &&& 0x3f).toInt64.toUInt64).toInt64) * (B.toInt64))), .second, .val (.long (((own_r (own_mix (own_g s1)) B).toInt64) <<< ((32 : Int32) &&& 0x3f).toInt64)), .second, .val (.long ((((own_r (own_mix (own_g s1)) B) + (1 : Int32)).toInt64) <<< ((32 : Int32) &&& 0x3f).toInt64)), .second] [(.ref b33), (.long (own_mix (own_g (own_g s1))))])) t → Steps p.tables e below (s₁.setTop (entryFrame m #[(.long s1), (.int p2)] maxLocals)) t := fun t k => q46 t (by
      show Steps p.tables e below (T45.setTop (mkF m 108 #[.val (.long s1), .second, .val (.int p2), .val (.int B), .val (.ref b27), .val (.ref b33), .val (.long (((own_mix (own_g s1)).toUInt64 >>> ((32 : Int32) &&& 0x3f).toInt64.toUInt64).toInt64)), .second, .val (.int (own_r (own_mix (own_g s1)) B)), .val (.long ((((own_mix (own_g s1)).toUInt64 >>> ((32 : Int32) &&& 0x3f).toInt64.toUInt64).toInt64) * (B.toInt64))), .second, .val (.long (((own_r (own_mix (own_g s1)) B).toInt64) <<< ((32 : Int32) &&& 0x3f).toInt64)), .second, .val (.long ((((own_r (own_mix (own_g s1)) B) + (1 : Int32)).toInt64) <<< ((32 : Int32) &&& 0x3f).toInt64)), .second] [(.long (own_mix (own_g (own_g s1))))])) _
      refine XS.aload X45.here hx rfl (hb hby at_108) rfl rfl ?_
      show Steps p.tables e below (T45.setTop (mkF m 110 #[.val (.long s1), .second, .val (.int p2), .val (.int B), .val (.ref b27), .val (.ref b33), .val (.long (((own_mix (own_g s1)).toUInt64 >>> ((32 : Int32) &&& 0x3f).toInt64.toUInt64).toInt64)), .second, .val (.int (own_r (own_mix (own_g s1)) B)), .val (.long ((((own_mix (own_g s1)).toUInt64 >>> ((32 : Int32) &&& 0x3f).toInt64.toUInt64).toInt64) * (B.toInt64))), .second, .val (.long (((own_r (own_mix (own_g s1)) B).toInt64) <<< ((32 : Int32) &&& 0x3f).toInt64)), .second, .val (.long ((((own_r (own_mix (own_g s1)) B) + (1 : Int32)).toInt64) <<< ((32 : Int32) &&& 0x3f).toInt64)), .second] [(.ref b33), (.long (own_mix (own_g (own_g s1))))])) _
      exact k)
  obtain ⟨cq48, kq48, qa48, qb48, qc48⟩ := isOf hZ rfl (cE4)
  obtain ⟨_, _, ⟨T48, L48, kk48, nn48⟩, -, X48, ⟨Lc48, hQ48, l48, y48, z48⟩, st48⟩ := X45.virtualBack hx (y := (⟨"org/edgehead/bench/SplitMix", "nextLong", "()J"⟩ : MethodName)) (z := (⟨"org/edgehead/bench/SplitMix", "nextLong", "()J"⟩ : MethodName)) hown (mvT hZ (hw _ (List.mem_of_getElem? (i := 16) rfl))) (mvT hZ (hw _ (List.mem_of_getElem? (i := 17) rfl))) (notFace_of_selects (args := #[]) (mvT hZ (hw _ (List.mem_of_getElem? (i := 19) rfl)))) (mvT hZ (hw _ (List.mem_of_getElem? (i := 19) rfl))) (mvT hZ (hw _ (List.mem_of_getElem? (i := 18) rfl))) (by decide) (backOf (W := 2) (rm3 l Z a0 hw [] b33 (own_g s1) T45.heap n0 Y45 cF4 cE4 gB) hZ (hw _ (List.mem_of_getElem? (i := 20) rfl)) (hw _ (List.mem_of_getElem? (i := 7) rfl)) (by decide) (by decide)) qa48 qc48 (g := (mkF m 110 #[.val (.long s1), .second, .val (.int p2), .val (.int B), .val (.ref b27), .val (.ref b33), .val (.long (((own_mix (own_g s1)).toUInt64 >>> ((32 : Int32) &&& 0x3f).toInt64.toUInt64).toInt64)), .second, .val (.int (own_r (own_mix (own_g s1)) B)), .val (.long ((((own_mix (own_g s1)).toUInt64 >>> ((32 : Int32) &&& 0x3f).toInt64.toUInt64).toInt64) * (B.toInt64))), .second, .val (.long (((own_r (own_mix (own_g s1)) B).toInt64) <<< ((32 : Int32) &&& 0x3f).toInt64)), .second, .val (.long ((((own_r (own_mix (own_g s1)) B) + (1 : Int32)).toInt64) <<< ((32 : Int32) &&& 0x3f).toInt64)), .second] [(.ref b33), (.long (own_mix (own_g (own_g s1))))])) rfl (by rw [hml]; rfl) (Steps.refl _) (argsL := []) (rest := [(.long (own_mix (own_g (own_g s1))))]) (lenOf pd___J rfl) rfl (by show 2 * 0 + _ ≤ _; exact Nat.le_of_eq rfl) (hb hby at_110) (fun _ _ => ⟨rfl, rfl, (by decide : 2 + 0 ≤ _), (by decide : 2 + 0 ≤ _)⟩)
  dsimp only [Pt.U, Pt.locs, Pt.cells, Pt.slots] at X48 l48 y48 z48 st48 hQ48
  subst l48 y48 z48
  obtain ⟨rfl, Nq48, K48, EE48, FF48⟩ := hQ48
  have N48 := Fr.app N45 Nq48
  have q49 : ∀ t, Steps p.tables e below (T48.setTop (mkF m 113 #[.val (.long s1), .second, .val (.int p2), .val (.int B), .val (.ref b27), .val (.ref b33), .val (.long (((own_mix (own_g s1)).toUInt64 >>> ((32 : Int32) &&& 0x3f).toInt64.toUInt64).toInt64)), .second, .val (.int (own_r (own_mix (own_g s1)) B)), .val (.long ((((own_mix (own_g s1)).toUInt64 >>> ((32 : Int32) &&& 0x3f).toInt64.toUInt64).toInt64) * (B.toInt64))), .second, .val (.long (((own_r (own_mix (own_g s1)) B).toInt64) <<< ((32 : Int32) &&& 0x3f).toInt64)), .second, .val (.long ((((own_r (own_mix (own_g s1)) B) + (1 : Int32)).toInt64) <<< ((32 : Int32) &&& 0x3f).toInt64)), .second] [(.long (own_mix (own_g (own_g s1)))), (.long (own_mix (own_g (own_g s1))))])) t → Steps p.tables e below (s₁.setTop (entryFrame m #[(.long s1), (.int p2)] maxLocals)) t := fun t k => q47 t (st48.trans k)
  have q50 : ∀ t, Steps p.tables e below (T48.setTop (mkF m 122 #[.val (.long s1), .second, .val (.int p2), .val (.int B), .val (.ref b27), .val (.ref b33), .val (.long (((own_mix (own_g s1)).toUInt64 >>> ((32 : Int32) &&& 0x3f).toInt64.toUInt64).toInt64)), .second, .val (.int (own_r (own_mix (own_g s1)) B)), .val (.long ((((own_mix (own_g s1)).toUInt64 >>> ((32 : Int32) &&& 0x3f).toInt64.toUInt64).toInt64) * (B.toInt64))), .second, .val (.long (((own_r (own_mix (own_g s1)) B).toInt64) <<< ((32 : Int32) &&& 0x3f).toInt64)), .second, .val (.long ((((own_r (own_mix (own_g s1)) B) + (1 : Int32)).toInt64) <<< ((32 : Int32) &&& 0x3f).toInt64)), .second] [(.int (1 : Int32))])) t → Steps p.tables e below (s₁.setTop (entryFrame m #[(.long s1), (.int p2)] maxLocals)) t := fun t k => q49 t (by
      show Steps p.tables e below (T48.setTop (mkF m 113 #[.val (.long s1), .second, .val (.int p2), .val (.int B), .val (.ref b27), .val (.ref b33), .val (.long (((own_mix (own_g s1)).toUInt64 >>> ((32 : Int32) &&& 0x3f).toInt64.toUInt64).toInt64)), .second, .val (.int (own_r (own_mix (own_g s1)) B)), .val (.long ((((own_mix (own_g s1)).toUInt64 >>> ((32 : Int32) &&& 0x3f).toInt64.toUInt64).toInt64) * (B.toInt64))), .second, .val (.long (((own_r (own_mix (own_g s1)) B).toInt64) <<< ((32 : Int32) &&& 0x3f).toInt64)), .second, .val (.long ((((own_r (own_mix (own_g s1)) B) + (1 : Int32)).toInt64) <<< ((32 : Int32) &&& 0x3f).toInt64)), .second] [(.long (own_mix (own_g (own_g s1)))), (.long (own_mix (own_g (own_g s1))))])) _
      refine XT.lcmp X48.here hx rfl (hb hby at_113) rfl ?_
      show Steps p.tables e below (T48.setTop (mkF m 114 #[.val (.long s1), .second, .val (.int p2), .val (.int B), .val (.ref b27), .val (.ref b33), .val (.long (((own_mix (own_g s1)).toUInt64 >>> ((32 : Int32) &&& 0x3f).toInt64.toUInt64).toInt64)), .second, .val (.int (own_r (own_mix (own_g s1)) B)), .val (.long ((((own_mix (own_g s1)).toUInt64 >>> ((32 : Int32) &&& 0x3f).toInt64.toUInt64).toInt64) * (B.toInt64))), .second, .val (.long (((own_r (own_mix (own_g s1)) B).toInt64) <<< ((32 : Int32) &&& 0x3f).toInt64)), .second, .val (.long ((((own_r (own_mix (own_g s1)) B) + (1 : Int32)).toInt64) <<< ((32 : Int32) &&& 0x3f).toInt64)), .second] [(.int (XT.cmpL (own_mix (own_g (own_g s1))) (own_mix (own_g (own_g s1)))))])) _
      refine XS.ifNo X48.here hx rfl (hb hby at_114) rfl (XT.ll_ne_f (rfl : (own_mix (own_g (own_g s1))) = (own_mix (own_g (own_g s1))))) ?_
      show Steps p.tables e below (T48.setTop (mkF m 117 #[.val (.long s1), .second, .val (.int p2), .val (.int B), .val (.ref b27), .val (.ref b33), .val (.long (((own_mix (own_g s1)).toUInt64 >>> ((32 : Int32) &&& 0x3f).toInt64.toUInt64).toInt64)), .second, .val (.int (own_r (own_mix (own_g s1)) B)), .val (.long ((((own_mix (own_g s1)).toUInt64 >>> ((32 : Int32) &&& 0x3f).toInt64.toUInt64).toInt64) * (B.toInt64))), .second, .val (.long (((own_r (own_mix (own_g s1)) B).toInt64) <<< ((32 : Int32) &&& 0x3f).toInt64)), .second, .val (.long ((((own_r (own_mix (own_g s1)) B) + (1 : Int32)).toInt64) <<< ((32 : Int32) &&& 0x3f).toInt64)), .second] [])) _
      refine XS.iconst X48.here hx rfl (hb hby at_117) ?_
      show Steps p.tables e below (T48.setTop (mkF m 118 #[.val (.long s1), .second, .val (.int p2), .val (.int B), .val (.ref b27), .val (.ref b33), .val (.long (((own_mix (own_g s1)).toUInt64 >>> ((32 : Int32) &&& 0x3f).toInt64.toUInt64).toInt64)), .second, .val (.int (own_r (own_mix (own_g s1)) B)), .val (.long ((((own_mix (own_g s1)).toUInt64 >>> ((32 : Int32) &&& 0x3f).toInt64.toUInt64).toInt64) * (B.toInt64))), .second, .val (.long (((own_r (own_mix (own_g s1)) B).toInt64) <<< ((32 : Int32) &&& 0x3f).toInt64)), .second, .val (.long ((((own_r (own_mix (own_g s1)) B) + (1 : Int32)).toInt64) <<< ((32 : Int32) &&& 0x3f).toInt64)), .second] [(.int (1 : Int32))])) _
      refine XS.goto X48.here hx rfl (pc0 := 118) (pc' := 122) rfl (hb hby at_118) (by decide) (by decide) ?_
      show Steps p.tables e below (T48.setTop (mkF m 122 #[.val (.long s1), .second, .val (.int p2), .val (.int B), .val (.ref b27), .val (.ref b33), .val (.long (((own_mix (own_g s1)).toUInt64 >>> ((32 : Int32) &&& 0x3f).toInt64.toUInt64).toInt64)), .second, .val (.int (own_r (own_mix (own_g s1)) B)), .val (.long ((((own_mix (own_g s1)).toUInt64 >>> ((32 : Int32) &&& 0x3f).toInt64.toUInt64).toInt64) * (B.toInt64))), .second, .val (.long (((own_r (own_mix (own_g s1)) B).toInt64) <<< ((32 : Int32) &&& 0x3f).toInt64)), .second, .val (.long ((((own_r (own_mix (own_g s1)) B) + (1 : Int32)).toInt64) <<< ((32 : Int32) &&& 0x3f).toInt64)), .second] [(.int (1 : Int32))])) _
      exact k)
  obtain ⟨fs, hr, hrun, hended, hW, hsame⟩ := X48.leave (v := some (.int (1 : Int32))) (fun h => by rw [Bd.returns] at h; cases h)
  refine ⟨_, _, q50 _ ?_, hrun, hended, _, _, rfl, ?_, ⟨_, rfl⟩, hW, hsame.mono (by decide) (by decide)⟩
  · show Steps p.tables e below (T48.setTop (mkF m 122 #[.val (.long s1), .second, .val (.int p2), .val (.int B), .val (.ref b27), .val (.ref b33), .val (.long (((own_mix (own_g s1)).toUInt64 >>> ((32 : Int32) &&& 0x3f).toInt64.toUInt64).toInt64)), .second, .val (.int (own_r (own_mix (own_g s1)) B)), .val (.long ((((own_mix (own_g s1)).toUInt64 >>> ((32 : Int32) &&& 0x3f).toInt64.toUInt64).toInt64) * (B.toInt64))), .second, .val (.long (((own_r (own_mix (own_g s1)) B).toInt64) <<< ((32 : Int32) &&& 0x3f).toInt64)), .second, .val (.long ((((own_r (own_mix (own_g s1)) B) + (1 : Int32)).toInt64) <<< ((32 : Int32) &&& 0x3f).toInt64)), .second] [(.int (1 : Int32))])) _
    exact retN X48 hx (t := .boolean) Bd.returns (by simp) (hb hby at_122) hr
  · show QL n0 _ T48.heap _
    exact ⟨rfl, N48⟩
set_option maxRecDepth 65536 in
set_option maxHeartbeats 40000000 in
theorem comes_1 {Post : Tables → Env → Array Value → State → Outcome → State → Prop} (hpost : ∀ tb e args s v u, (limb_1_1.after args s (.returned v) u = true ∧ limb_1_2.after args s (.returned v) u = true ∧ True) → FrameEnd s (.returned v) u (Jvm.fieldLocs frame_1_writes args s ++ Jvm.arrayLocs frame_1_arrays args s ++ Jvm.staticLocs frame_1_statics s) 16 128 → Post tb e args s (.returned v) u) :
    ArmFor flags0 classFile x code maxLocals ret World_1 tables_1 room_1 Calls_1 rest_1 Pre_1 Post := by
  intro l hfl _ _ p e ha hc hk s m args below hf hA hF happ hP
  obtain ⟨hcalls, hrest, hpre⟩ := hP
  obtain ⟨-, -, -, hnamed, -, -, -, hat⟩ := (Spec.applies_iff hf).mp happ
  obtain ⟨hg, hn⟩ := and_e (Cond.before_iff.mp (show (Jvm.Cond.and given_1 narrow_1).before args s = true from hpre))
  obtain ⟨gc, r0⟩ := and_e hg
  obtain ⟨g0, r1⟩ := and_e r0
  obtain ⟨w0, w1, rfl⟩ : ∃ w0 w1 : Value, args = #[w0, w1] := by
    have hs : args.size = 2 := by simpa [Cond.value, given_1] using gc
    obtain ⟨L⟩ := args
    match L, hs with
    | [w0, w1], _ => exact ⟨w0, w1, rfl⟩
  have hw := fun d (hd : d ∈ tables_1) => atoms_spec (ws := Jvm.Cond.code x code maxLocals ret :: tables_1) hat d (List.mem_cons_of_mem _ hd)
  obtain ⟨i0, ei0⟩ := isL_v g0
  obtain rfl : w0 = (.long i0) := Option.some.inj ei0
  obtain ⟨i1, ei1⟩ := is_v r1
  obtain rfl : w1 = (.int i1) := Option.some.inj ei1
  obtain ⟨n, o, h1, h2, h3, _, L, rfl, ⟨rfl, N⟩, hq⟩ := rm0 l s _ hw tables_1 i0 i1 s.heap s.heap.size (Nat.le_refl _) p e ha hc hk s m _ below hf ((Spec.applies_iff_loose hf).mp happ).1 ⟨rfl, State.Warmed39.refl s, rfl⟩ trivial
  refine ⟨n, _, h1, h2, h3, hpost _ _ _ _ _ _ ⟨Cond.after_iff.mpr rfl, Cond.after_iff.mpr (eq_i res_at (Term.int_eval (1)) rfl), trivial⟩ ⟨hq.1, hq.2.1, (hq.2.2.sift fun y hy => Or.inr (N y hy)).mono (by decide) (by decide)⟩⟩
theorem main_1_1 : Claimed_1_1 := comes_1 fun _ _ _ _ _ _ h hF => ⟨h.1, hF⟩
theorem main_1_2 : Claimed_1_2 := comes_1 fun _ _ _ _ _ _ h hF => ⟨h.2.1, hF⟩
end Jvm.Pilot.@@N@@
namespace Jvm.Pilot.@@N@@
open Jvm Jvm.ClassFile Sem Op Lib Jvm.Free Jvm.Stand Jvm.Pilot.@@N@@.Jvm.D
/-! MADE BY PROGRAM (witnessworld.py) out of the Statement's table words and the real class files: 10 classes; the members and pool entries that the words name. The judged class is class 1, her method 1. -/
namespace start1
open Jvm.ClassFile
def u (s : String) : CpInfo := .utf8 (stringToUtf16 s)
/-- a pool by its gaps: so many unusable entries, then the entry; so many at the end -/
def gap : Nat → List CpInfo → List CpInfo
  | 0, r => r
  | n + 1, r => .unusable :: gap n r
def poolList (es : List (Nat × CpInfo)) (last : Nat) : List CpInfo := es.foldr (fun e r => gap e.1 (e.2 :: r)) (gap last [])
def pool (es : List (Nat × CpInfo)) (last : Nat) : Array CpInfo := ⟨poolList es last⟩
def fileOf (pool : Array CpInfo) (this : Nat) (attrs : Array Attribute := #[]) (ms : Array MethodInfo := #[]) (fl : Nat := 33) (sup : Nat := 0) (ifs : Array Nat := #[]) (fds : Array FieldInfo := #[]) : ClassFile where
  minorVersion := 0
  majorVersion := 65
  constantPool := pool
  accessFlags := fl
  thisClass := this
  superClass := sup
  interfaces := ifs
  fields := fds
  methods := ms
  attributes := attrs
def plain (name : String) (sup : Option ClassId) : Class where
  name := name
  kind := .ordinary
  loader := none
  accessFlags := 33
  super := sup
  interfaces := #[]
  cf := none
  fields := #[]
  methods := #[]
  instanceTypes := #[]
  staticTypes := #[]
  resolved := #[]
  callSites := []
  init := .initialized
  statics := none
  mirror := none

def pool0 : Array CpInfo := pool [(5, u "<init>"), (0, u "()V"), (1, .class_ 10), (1, u "java/lang/Object")] 113

def k0c0 : Code := { maxStack := 0, maxLocals := 1, code := object_method_1_code, exceptionTable := #[], attributes := #[] }
def k0m0 : Method := { name := "<init>", desc := "()V", sig := { parameters := [], returnType := none }, accessFlags := 1, code := some k0c0 }
/-- java/lang/Object -/
def k0 : Class := { plain "java/lang/Object" none with
  accessFlags := 33
  interfaces := #[]
  cf := some (fileOf pool0 8 #[] #[{ accessFlags := 1, nameIndex := 5, descriptorIndex := 6, attributes := #[] }] 33 0 #[] #[])
  fields := #[]
  methods := #[k0m0]
  instanceTypes := #[]
  staticTypes := #[]
  resolved := Array.replicate 124 none
  statics := none }

def pool1 : Array CpInfo := pool [(2, .class_ 4), (1, u "java/lang/Object"), (0, u "<init>"), (0, u "()V"), (0, .integer 2147483647), (0, .methodref 9 10), (0, .class_ 11), (0, .nameAndType 12 13), (0, u "java/lang/Math"), (0, u "max"), (0, u "(II)I"), (0, .class_ 15), (0, u "org/edgehead/bench/SplitMix"), (0, .methodref 14 17), (0, .nameAndType 5 18), (0, u "(J)V"), (0, .methodref 14 20), (0, .nameAndType 21 22), (0, u "nextLong"), (0, u "()J"), (0, .methodref 14 24), (0, .nameAndType 25 26), (0, u "nextInt"), (0, u "(I)I"), (0, .class_ 28), (0, u "org/edgehead/bench/SplitMixNextIntPinLaw"), (2, u "law"), (0, u "(JI)Z")] 3

def k1m0 : Method := { name := "<init>", desc := "()V", sig := { parameters := [], returnType := none }, accessFlags := 1, code := none }
def k1c1 : Code := { maxStack := 4, maxLocals := 15, code := code, exceptionTable := #[], attributes := #[] }
def k1m1 : Method := { name := "law", desc := "(JI)Z", sig := { parameters := [.long, .int], returnType := some .boolean }, accessFlags := 9, code := some k1c1 }
/-- org/edgehead/bench/SplitMixNextIntPinLaw -/
def k1 : Class := { plain "org/edgehead/bench/SplitMixNextIntPinLaw" (some 0) with
  accessFlags := 49
  interfaces := #[]
  cf := some (fileOf pool1 27 #[] #[{ accessFlags := 1, nameIndex := 5, descriptorIndex := 6, attributes := #[] }, { accessFlags := 9, nameIndex := 31, descriptorIndex := 32, attributes := #[] }] 49 2 #[] #[])
  fields := #[]
  methods := #[k1m0, k1m1]
  instanceTypes := #[]
  staticTypes := #[]
  resolved := Array.replicate 36 none
  statics := none }

def pool2 : Array CpInfo := pool [(1, .class_ 2), (0, u "java/lang/Math"), (1, .class_ 6), (1, u "java/lang/Object"), (0, u "<init>"), (0, u "()V"), (89, .class_ 100), (1, u "java/lang/Math$RandomNumberGeneratorHolder"), (71, u "negativeZeroFloatBits"), (0, u "J"), (2, u "negativeZeroDoubleBits"), (21, u "max"), (46, u "$assertionsDisabled"), (0, u "Z"), (88, u "(II)I"), (2, u "twoToTheDoubleScaleDown"), (0, u "D"), (4, u "twoToTheDoubleScaleUp"), (9, u "E"), (3, u "PI"), (2, u "TAU"), (2, u "DEGREES_TO_RADIANS"), (0, u "RADIANS_TO_DEGREES")] 94

def k2m0 : Method := { name := "<init>", desc := "()V", sig := { parameters := [], returnType := none }, accessFlags := 2, code := none }
def k2c1 : Code := { maxStack := 2, maxLocals := 2, code := jdk_29_method_65_code, exceptionTable := #[], attributes := #[] }
def k2m1 : Method := { name := "max", desc := "(II)I", sig := { parameters := [.int, .int], returnType := some .int }, accessFlags := 9, code := some k2c1 }
/-- java/lang/Math -/
def k2 : Class := { plain "java/lang/Math" (some 0) with
  accessFlags := 49
  interfaces := #[]
  cf := some (fileOf pool2 1 #[.nestMembers #[98]] #[{ accessFlags := 2, nameIndex := 7, descriptorIndex := 8, attributes := #[] }, { accessFlags := 9, nameIndex := 198, descriptorIndex := 335, attributes := #[] }] 49 4 #[] #[{ accessFlags := 25, nameIndex := 354, descriptorIndex := 339, attributes := #[] }, { accessFlags := 25, nameIndex := 358, descriptorIndex := 339, attributes := #[] }, { accessFlags := 25, nameIndex := 361, descriptorIndex := 339, attributes := #[] }, { accessFlags := 26, nameIndex := 364, descriptorIndex := 339, attributes := #[] }, { accessFlags := 26, nameIndex := 365, descriptorIndex := 339, attributes := #[] }, { accessFlags := 26, nameIndex := 172, descriptorIndex := 173, attributes := #[] }, { accessFlags := 26, nameIndex := 176, descriptorIndex := 173, attributes := #[] }, { accessFlags := 8, nameIndex := 344, descriptorIndex := 339, attributes := #[] }, { accessFlags := 8, nameIndex := 338, descriptorIndex := 339, attributes := #[] }, { accessFlags := 4120, nameIndex := 245, descriptorIndex := 246, attributes := #[] }])
  fields := #[{ name := "E", type := .double, accessFlags := 25, slot := 0, constantValue := 0 }, { name := "PI", type := .double, accessFlags := 25, slot := 1, constantValue := 0 }, { name := "TAU", type := .double, accessFlags := 25, slot := 2, constantValue := 0 }, { name := "DEGREES_TO_RADIANS", type := .double, accessFlags := 26, slot := 3, constantValue := 0 }, { name := "RADIANS_TO_DEGREES", type := .double, accessFlags := 26, slot := 4, constantValue := 0 }, { name := "negativeZeroFloatBits", type := .long, accessFlags := 26, slot := 5, constantValue := 0 }, { name := "negativeZeroDoubleBits", type := .long, accessFlags := 26, slot := 6, constantValue := 0 }, { name := "twoToTheDoubleScaleUp", type := .double, accessFlags := 8, slot := 7, constantValue := 0 }, { name := "twoToTheDoubleScaleDown", type := .double, accessFlags := 8, slot := 8, constantValue := 0 }, { name := "$assertionsDisabled", type := .boolean, accessFlags := 4120, slot := 9, constantValue := 0 }]
  methods := #[k2m0, k2m1]
  instanceTypes := #[]
  staticTypes := #[.double, .double, .double, .double, .double, .long, .long, .double, .double, .boolean]
  resolved := Array.replicate 460 none
  statics := none }

def pool3 : Array CpInfo := pool [(1, .methodref 2 3), (0, .class_ 4), (0, .nameAndType 5 6), (0, u "java/lang/Object"), (0, u "<init>"), (0, u "()V"), (0, .fieldref 8 9), (0, .class_ 10), (0, .nameAndType 11 12), (0, u "org/edgehead/bench/SplitMix"), (0, u "state"), (0, u "J"), (0, .long 11400714819323198485), (1, .long 13787848793156543929), (1, .long 10723151780598845931), (1, .methodref 8 20), (0, .nameAndType 21 22), (0, u "nextLong"), (0, u "()J"), (2, u "(J)V"), (4, u "nextInt"), (0, u "(I)I")] 2

def k3c0 : Code := { maxStack := 3, maxLocals := 3, code := prog_20_method_1_code, exceptionTable := #[], attributes := #[] }
def k3m0 : Method := { name := "<init>", desc := "(J)V", sig := { parameters := [.long], returnType := none }, accessFlags := 0, code := some k3c0 }
def k3c1 : Code := { maxStack := 5, maxLocals := 3, code := prog_20_method_2_code, exceptionTable := #[], attributes := #[] }
def k3m1 : Method := { name := "nextLong", desc := "()J", sig := { parameters := [], returnType := some .long }, accessFlags := 0, code := some k3c1 }
def k3c2 : Code := { maxStack := 4, maxLocals := 2, code := prog_20_method_4_code, exceptionTable := #[], attributes := #[] }
def k3m2 : Method := { name := "nextInt", desc := "(I)I", sig := { parameters := [.int], returnType := some .int }, accessFlags := 0, code := some k3c2 }
/-- org/edgehead/bench/SplitMix -/
def k3 : Class := { plain "org/edgehead/bench/SplitMix" (some 0) with
  accessFlags := 48
  interfaces := #[]
  cf := some (fileOf pool3 8 #[] #[{ accessFlags := 0, nameIndex := 5, descriptorIndex := 25, attributes := #[] }, { accessFlags := 0, nameIndex := 21, descriptorIndex := 22, attributes := #[] }, { accessFlags := 0, nameIndex := 30, descriptorIndex := 31, attributes := #[] }] 48 2 #[] #[{ accessFlags := 2, nameIndex := 11, descriptorIndex := 12, attributes := #[] }])
  fields := #[{ name := "state", type := .long, accessFlags := 2, slot := 0, constantValue := 0 }]
  methods := #[k3m0, k3m1, k3m2]
  instanceTypes := #[.long]
  staticTypes := #[]
  resolved := Array.replicate 34 none
  statics := none }

def pool4 : Array CpInfo := pool [(1, u "java/lang/Cloneable"), (0, .class_ 1), (0, u "java/lang/Object"), (0, .class_ 3)] 3

/-- java/lang/Cloneable -/
def k4 : Class := { plain "java/lang/Cloneable" (some 0) with
  accessFlags := 1537
  interfaces := #[]
  cf := some (fileOf pool4 2 #[] #[] 1537 4 #[] #[])
  fields := #[]
  methods := #[]
  instanceTypes := #[]
  staticTypes := #[]
  resolved := Array.replicate 8 none
  statics := none }

def pool5 : Array CpInfo := pool [(1, u "java/io/Serializable"), (0, .class_ 1), (0, u "java/lang/Object"), (0, .class_ 3)] 3

/-- java/io/Serializable -/
def k5 : Class := { plain "java/io/Serializable" (some 0) with
  accessFlags := 1537
  interfaces := #[]
  cf := some (fileOf pool5 2 #[] #[] 1537 4 #[] #[])
  fields := #[]
  methods := #[]
  instanceTypes := #[]
  staticTypes := #[]
  resolved := Array.replicate 8 none
  statics := none }

/-- the primitive byte -/
def k6 : Class := { plain "byte" none with kind := .primitive 'B', accessFlags := 0x411 }
/-- [B -/
def k7 : Class := { plain "[B" (some 0) with kind := .array 6 .byte, interfaces := #[4, 5], accessFlags := 1041 }

/-- the primitive int -/
def k8 : Class := { plain "int" none with kind := .primitive 'I', accessFlags := 0x411 }
/-- [I -/
def k9 : Class := { plain "[I" (some 0) with kind := .array 8 .int, interfaces := #[4, 5], accessFlags := 1041 }

def heap : Heap := #[]
def classes : Array Class := #[k0, k1, k2, k3, k4, k5, k6, k7, k8, k9]
def interned : List (Array UInt16 × Addr) := []
def slotsUsed : Nat := 0
def theMethod : MethodId := ⟨1, 1⟩
def args0 : Array Value := #[.long 5, .int 7]
def aboutOver (below : List Frame) : State where
  vm := { classes := classes, interned := interned.toArray }
  heap := heap
  slotsUsed := slotsUsed
  threads := #[{ frames := .invoking theMethod args0 :: below }]
def below0 : List Frame := [.native { method := ⟨0, 0⟩, args := #[] }]
def about1 : State := aboutOver below0
def p0 : Program := .bare "" "" ""
def e0 : Env := launch0.env 0 0 0
theorem w_frames : about1.frames = Frame.invoking theMethod args0 :: below0 := rfl
set_option maxRecDepth 65536 in
theorem w_args : argsFit about1.vm theMethod args0 = true := by decide +kernel
set_option maxRecDepth 65536 in
theorem w_heap : heapFits about1 = true := by decide +kernel
set_option maxRecDepth 65536 in
theorem w_runnable : about1.curStatus? = some .runnable := by decide +kernel
set_option maxRecDepth 65536 in
theorem w_alone : about1.alone = true := by decide +kernel
set_option maxRecDepth 65536 in
theorem w_named : about1.methodNamed? x = some theMethod := by decide +kernel
set_option maxRecDepth 65536 in
theorem w_hears : about1.hears theMethod below0 = true := by decide +kernel
set_option maxRecDepth 65536 in
theorem w_ripe : about1.ripe theMethod args0 below0 = true := by decide +kernel
theorem w_running : about1.status = .running := rfl
set_option maxRecDepth 65536 in
theorem w_room : about1.hasRoom e0.platform room_1 = true :=
  launch0.hasRoom_least _ room_1 (by decide +kernel) (by decide +kernel) (by decide +kernel) (by decide +kernel) (by decide +kernel) (by decide +kernel)
theorem allAtoms_all (ts : List Jvm.Cond) (a : Array Jvm.Value) (st : Jvm.State) : (allAtoms ts).before a st = ts.all (fun c => c.before a st) := by
  induction ts with
  | nil => rfl
  | cons c t ih =>
    show (Jvm.Cond.and c (allAtoms t)).before a st = _
    rw [Jvm.Cond.before_and, ih, List.all_cons]
def words1 : List Jvm.Cond := Jvm.Cond.code x code maxLocals ret :: tables_1
/-- a 'code' word, met by the world's own term for the bytes: nothing is compared byte by byte -/
theorem code_word {y : MethodName} {bytes : ByteArray} {mx : Nat} {rt : Option FieldType} {a : Array Value} {s : State} {m : MethodId} {meth : Method} {c : Code} (h1 : s.methodNamed? y = some m) (h2 : s.vm.method? m = some meth) (h3 : meth.code = some c) (h4 : c.code = bytes)
    (h5 : (c.maxLocals == mx && c.exceptionTable.isEmpty && decide (c.maxStack ≤ mostOperands) && decide (meth.sig.returnType = rt) && !meth.locks && decide (parseMethodDescriptor y.desc = some meth.sig)) = true) : (Jvm.Cond.code y bytes mx rt).before a s = true := by
  simp only [Bool.and_eq_true, beq_iff_eq, Bool.not_eq_true', decide_eq_true_eq] at h5
  obtain ⟨⟨⟨⟨⟨g1, g2⟩, g3⟩, g4⟩, g5⟩, g6⟩ := h5
  simp [Cond.before, Cond.holds, Cond.value, h1, h2, h3, h4, g1, g2, g3, g4, g5, g6]
def isCode : Jvm.Cond → Bool
  | .code _ _ _ _ => true
  | _ => false
theorem all_split {L : List Jvm.Cond} {P : Jvm.Cond → Bool} (h1 : L.all (fun c => isCode c || P c) = true) (h2 : ∀ c ∈ L.filter isCode, P c = true) : L.all P = true := by
  refine List.all_eq_true.mpr fun c hc => ?_
  have h := List.all_eq_true.mp h1 c hc
  rcases Bool.eq_false_or_eq_true (isCode c) with hi | hi
  · exact h2 c (List.mem_filter.mpr ⟨hc, hi⟩)
  · simpa [hi] using h
set_option maxRecDepth 65536 in
theorem w_c0 : (Jvm.Cond.code x code maxLocals ret).before args0 about1 = true := code_word (m := ⟨1, 1⟩) (meth := k1m1) (c := k1c1) (by decide +kernel) rfl rfl rfl (by decide +kernel)
set_option maxRecDepth 65536 in
theorem w_c1 : (Jvm.Cond.code ({ cls := "java/lang/Math", name := "max", desc := "(II)I" } : Jvm.MethodName) jdk_29_method_65_code (2 : Nat) (Option.some Jvm.ClassFile.FieldType.int)).before args0 about1 = true := code_word (m := ⟨2, 1⟩) (meth := k2m1) (c := k2c1) (by decide +kernel) rfl rfl rfl (by decide +kernel)
set_option maxRecDepth 65536 in
theorem w_c2 : (Jvm.Cond.code ({ cls := "org/edgehead/bench/SplitMix", name := "<init>", desc := "(J)V" } : Jvm.MethodName) prog_20_method_1_code (3 : Nat) (Option.none : Option Jvm.ClassFile.FieldType)).before args0 about1 = true := code_word (m := ⟨3, 0⟩) (meth := k3m0) (c := k3c0) (by decide +kernel) rfl rfl rfl (by decide +kernel)
set_option maxRecDepth 65536 in
theorem w_c3 : (Jvm.Cond.code ({ cls := "java/lang/Object", name := "<init>", desc := "()V" } : Jvm.MethodName) object_method_1_code (1 : Nat) (Option.none : Option Jvm.ClassFile.FieldType)).before args0 about1 = true := code_word (m := ⟨0, 0⟩) (meth := k0m0) (c := k0c0) (by decide +kernel) rfl rfl rfl (by decide +kernel)
set_option maxRecDepth 65536 in
theorem w_c4 : (Jvm.Cond.code ({ cls := "org/edgehead/bench/SplitMix", name := "nextLong", desc := "()J" } : Jvm.MethodName) prog_20_method_2_code (3 : Nat) (Option.some Jvm.ClassFile.FieldType.long)).before args0 about1 = true := code_word (m := ⟨3, 1⟩) (meth := k3m1) (c := k3c1) (by decide +kernel) rfl rfl rfl (by decide +kernel)
set_option maxRecDepth 65536 in
theorem w_c5 : (Jvm.Cond.code ({ cls := "org/edgehead/bench/SplitMix", name := "nextInt", desc := "(I)I" } : Jvm.MethodName) prog_20_method_4_code (2 : Nat) (Option.some Jvm.ClassFile.FieldType.int)).before args0 about1 = true := code_word (m := ⟨3, 2⟩) (meth := k3m2) (c := k3c2) (by decide +kernel) rfl rfl rfl (by decide +kernel)
def codes1 : List Jvm.Cond := [Jvm.Cond.code x code maxLocals ret, Jvm.Cond.code ({ cls := "java/lang/Math", name := "max", desc := "(II)I" } : Jvm.MethodName) jdk_29_method_65_code (2 : Nat) (Option.some Jvm.ClassFile.FieldType.int), Jvm.Cond.code ({ cls := "org/edgehead/bench/SplitMix", name := "<init>", desc := "(J)V" } : Jvm.MethodName) prog_20_method_1_code (3 : Nat) (Option.none : Option Jvm.ClassFile.FieldType), Jvm.Cond.code ({ cls := "java/lang/Object", name := "<init>", desc := "()V" } : Jvm.MethodName) object_method_1_code (1 : Nat) (Option.none : Option Jvm.ClassFile.FieldType), Jvm.Cond.code ({ cls := "org/edgehead/bench/SplitMix", name := "nextLong", desc := "()J" } : Jvm.MethodName) prog_20_method_2_code (3 : Nat) (Option.some Jvm.ClassFile.FieldType.long), Jvm.Cond.code ({ cls := "org/edgehead/bench/SplitMix", name := "nextInt", desc := "(I)I" } : Jvm.MethodName) prog_20_method_4_code (2 : Nat) (Option.some Jvm.ClassFile.FieldType.int)]
set_option maxRecDepth 65536 in
theorem codes_eq : words1.filter isCode = codes1 := rfl
theorem w_codes : ∀ c ∈ words1.filter isCode, c.before args0 about1 = true := by
  rw [codes_eq]
  intro c hc
  simp only [codes1, List.mem_cons, List.not_mem_nil, or_false] at hc
  rcases hc with rfl | rfl | rfl | rfl | rfl | rfl
  · exact w_c0
  · exact w_c1
  · exact w_c2
  · exact w_c3
  · exact w_c4
  · exact w_c5
set_option maxRecDepth 65536 in
theorem w_t1 : (words1.take 24).all (fun c => isCode c || c.before args0 about1) = true := by decide +kernel
set_option maxRecDepth 65536 in
theorem w_t2 : (words1.drop 24).all (fun c => isCode c || c.before args0 about1) = true := by decide +kernel
theorem w_tables : (allAtoms (Jvm.Cond.code x code maxLocals ret :: tables_1)).before args0 about1 = true := by
  rw [allAtoms_all]
  show words1.all (fun c => c.before args0 about1) = true
  refine all_split ?_ w_codes
  rw [← List.take_append_drop 24 words1, List.all_append, w_t1, w_t2]
  rfl
set_option maxRecDepth 65536 in
theorem w_case : (Jvm.Cond.and given_1 narrow_1).before args0 about1 = true := by decide +kernel
theorem w_applies : (headSpec (Jvm.Cond.code x code maxLocals ret :: tables_1) room_1).applies x e0.platform about1 = true :=
  (Spec.applies_iff w_frames).mpr ⟨w_running, w_runnable, w_alone, w_named, w_hears, w_ripe, w_room, w_tables⟩
theorem atStart : AtStart classFile x code maxLocals ret World_1 tables_1 room_1 Calls_1 rest_1 Pre_1 launch0 p0 e0 about1 theMethod args0 below0 :=
  ⟨lists_1, trivial, launch0.admits_env _ _ _, launch0.least_env, fairChoices_fair.cas, fairChoices_fair.clock, w_frames, w_args, w_heap, w_applies, trivial, trivial, w_case⟩
end start1
theorem witness_1 : WitnessClaimed_1 := ⟨start1.p0, start1.e0, start1.about1, start1.theMethod, start1.args0, start1.below0, start1.atStart⟩
end Jvm.Pilot.@@N@@
