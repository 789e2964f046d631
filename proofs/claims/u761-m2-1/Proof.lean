import JvmDerived
import JvmDerived.Pilot.@@N@@Statement
import JvmDerived.Pilot.@@N@@Code
set_option linter.unusedVariables false
set_option linter.unusedSimpArgs false
namespace Jvm.RoadKit
open Sem ClassFile Op Lib Jvm.Stand Jvm.Free Jvm.LawKit
section New
variable {p : Program} {l : Launch} {e : Env} {R : Room} {s : State} {m : MethodId} {args : Array Value} {below : List Frame} {meth : Method} {c : Code} {T : State} {locs : List Loc} {cells slots : Nat}
theorem retI (X : Stand p l e R s m args below meth c T locs cells slots) (hx : p.tables.exec = Jvm.exec) {pc : Nat} {Ls : Array Slot} {z : Int32} {rest : List Value} (hret : meth.sig.returnType = some .int) (hd : decode c.code pc = .ok (.ireturn, 1)) {fs : List Frame}
    (hl : ∀ (f : JFrame) (acts : List Action), f.method = m → f.locked = none → f.entered = [] → (doReturn e (T.setTop f) acts (some (.int z))).1 = T.setFrames fs) : Steps p.tables e below (T.setTop (mkF m pc Ls (.int z :: rest))) (T.setFrames fs) := by
  have hm' : T.vm.method? m = some meth := X.method'
  have hn : narrow .int (.int z) = .int z := rfl
  show Steps p.tables e below (T.setTop { method := m, pc := pc, locals := Ls, stack := _ :: rest, locked := none }) _
  jvm_step X.here [X.here.top, hx, hd, hm', hret, hn]
  first | (intro acts; rw [hl _ acts rfl rfl rfl]) | rw [hl _ _ rfl rfl rfl]
  exact Steps.refl _
end New
end Jvm.RoadKit
namespace Jvm.Pilot.@@N@@
open Jvm Jvm.ClassFile Sem Op Lib Jvm.Free Jvm.Stand Jvm.LawKit Jvm.RoadKit Bundle Jvm.Pilot.@@N@@.Jvm.D
def QN (r : Int32) (h0 : Heap) (n0 : Nat) (v : Option Value) (h : Heap) (L : List Loc) : Prop := v = some (.int r) ∧ Fr n0 L ∧ h = h0
theorem own_lt {x y : Int32} (h : x.toInt < y.toInt) : x < y := Int32.lt_iff_toInt_lt.mpr h
theorem own_nlt {x y : Int32} (h : ¬ x.toInt < y.toInt) : ¬ x < y := fun q => h (Int32.lt_iff_toInt_lt.mp q)
theorem own_eq {x y : Int32} (h : x.toInt = y.toInt) : x = y := Int32.toInt_inj.mp h
theorem own_ne {x y : Int32} (h : ¬ x.toInt = y.toInt) : ¬ x = y := fun q => h (Int32.toInt_inj.mpr q)
/-- a byte array by a function: its length N, place i holds f i -/
def Bt (Z : State) (h : Heap) (a : Addr) (N : Int32) (f : Nat → Int32) : Prop := ∃ c : Cell, Arr Z h a c .byte ∧ c.slots.size = N.toNatClampNeg ∧ ¬ N < 0 ∧ ∀ i, i < c.slots.size → c.slots[i]? = some (.int (f i))
theorem Bt.new {Z : State} {h : Heap} {a : Addr} {k : ClassId} {N : Int32} (A : Arr Z h a (newA k .byte N) .byte) (q : ¬ N < 0) : Bt Z h a N (fun _ => 0) :=
  ⟨_, A, sz_new _ _ _, q, fun i hi => by rw [sz_new] at hi; simp [newA, hi, defaultValue]⟩
theorem Bt.set {Z : State} {h h' : Heap} {a : Addr} {N j v : Int32} {f : Nat → Int32} {c : Cell} (A : Arr Z h a c .byte) (S : c.slots.size = N.toNatClampNeg) (M : ¬ N < 0) (H : ∀ i, i < c.slots.size → c.slots[i]? = some (.int (f i))) (W : Wr h h' a j.toNatClampNeg (.int v)) : Bt Z h' a N (fun i => if i = j.toNatClampNeg then v else f i) := by
  refine ⟨_, A.same W, by rw [sz_set]; exact S, M, fun i hi => ?_⟩
  rw [sz_set] at hi
  show (c.setSlot j.toNatClampNeg (.int v)).slots[i]? = some (.int (if i = j.toNatClampNeg then v else f i))
  by_cases u : i = j.toNatClampNeg
  · rw [if_pos u]; subst u; simp [Cell.setSlot, hi]
  · rw [if_neg u]; simp only [Cell.setSlot]; rw [Array.getElem?_setIfInBounds_ne (fun y => u y.symm)]; exact H i hi
theorem Bt.lt {Z : State} {h : Heap} {a : Addr} {N : Int32} {f : Nat → Int32} (B : Bt Z h a N f) : a < h.size := by obtain ⟨c, A, -⟩ := B; exact A.lt
theorem Bt.ext {Z : State} {h h' : Heap} {a : Addr} {N : Int32} {f : Nat → Int32} (B : Bt Z h a N f) (E : Ext h h') : Bt Z h' a N f := by obtain ⟨c, A, r⟩ := B; exact ⟨c, A.ext E, r⟩
theorem Bt.other {Z : State} {h h' : Heap} {a b : Addr} {sl : Nat} {v : Value} {N : Int32} {f : Nat → Int32} (B : Bt Z h b N f) (W : Wr h h' a sl v) (q : b ≠ a) : Bt Z h' b N f := by obtain ⟨c, A, r⟩ := B; exact ⟨c, A.other W q, r⟩
theorem own_nb (x : Int32) : nar .byte (x.toInt8.toInt32) = x.toInt8.toInt32 := by show (x.toInt8.toInt32).toInt8.toInt32 = _; simp
def own_acc (N : Int32) : Int32 := if N < (1 : Int32) then (0 : Int32) else if (127 : Int32) < N then (0 : Int32) else (1 : Int32)
theorem pn_cardwright_core_Pin : plainName "cardwright/core/Pin" = true := by first | (simp [plainName, overriddenIn]; done) | decide +kernel
theorem ef_1 (m : MethodId) (a1 : Addr) : entryFrame m #[(.ref a1)] 1 = mkF m 0 #[.val (.ref a1)] [] := by first | (simp [entryFrame, mkF, argsToLocals, Value.category]; done) | rfl
theorem d1_0 : decode prog_55_method_5_code 0 = .ok (.aload_n 0, 1) := by decide +kernel
theorem d1_1 : decode prog_55_method_5_code 1 = .ok (.arraylength, 1) := by decide +kernel
theorem d1_2 : decode prog_55_method_5_code 2 = .ok (.iconst 1, 1) := by decide +kernel
theorem d1_3 : decode prog_55_method_5_code 3 = .ok (.if_icmp .lt 14, 3) := by decide +kernel
theorem d1_17 : decode prog_55_method_5_code 17 = .ok (.iconst 0, 1) := by decide +kernel
theorem d1_18 : decode prog_55_method_5_code 18 = .ok (.ireturn, 1) := by decide +kernel
theorem d1_6 : decode prog_55_method_5_code 6 = .ok (.aload_n 0, 1) := by decide +kernel
theorem d1_7 : decode prog_55_method_5_code 7 = .ok (.arraylength, 1) := by decide +kernel
theorem d1_8 : decode prog_55_method_5_code 8 = .ok (.bipush 127, 2) := by decide +kernel
theorem d1_10 : decode prog_55_method_5_code 10 = .ok (.if_icmp .gt 7, 3) := by decide +kernel
theorem d1_13 : decode prog_55_method_5_code 13 = .ok (.iconst 1, 1) := by decide +kernel
theorem d1_14 : decode prog_55_method_5_code 14 = .ok (.goto 4, 3) := by decide +kernel
set_option maxRecDepth 65536 in
set_option maxHeartbeats 40000000 in
theorem rm1 (l : Launch) (Z : State) (a0 : Array Value) (hw : ∀ d ∈ tables_1, d.before a0 Z = true) (ws : List Jvm.Cond) (a1 : Addr) (N : Int32) (f : Nat → Int32) (h0 : Heap) (n0 : Nat) (Z0 : n0 ≤ h0.size) (B : Bt Z h0 a1 N f) :
    MetFree l (⟨"cardwright/core/Pin", "acceptable", "([B)Z"⟩ : MethodName) (head1 (Jvm.Cond.code (⟨"cardwright/core/Pin", "acceptable", "([B)Z"⟩ : MethodName) prog_55_method_5_code 1 (some .boolean) :: ws) ({ frames := 0, cells := 0, slots := 0, locals := 0 } : Room)) (fun a U => a = #[(.ref a1)] ∧ Z.Warmed39 U.vm ∧ U.heap = h0) (fun _ _ _ _ _ => True) (fun _ U o U' => ∃ v L, o = .returned v ∧ QN (own_acc N) h0 n0 v U'.heap L ∧ FrameEnd U o U' L ({ frames := 0, cells := 0, slots := 0, locals := 0 } : Room).cells ({ frames := 0, cells := 0, slots := 0, locals := 0 } : Room).slots) := by
  refine MetFree.of_bodySF (plainFor_of_name pn_cardwright_core_Pin) hisR ?_
  intro p e s m args below meth c s₁ Bd hml0 hP hK
  obtain ⟨rfl, hZ, hh⟩ := hP
  have hx := Bd.exec
  have hby := Bd.bytes
  have hml : c.maxLocals = 1 := hml0
  have hown : s.vm.findClass "cardwright/core/Pin" = some m.cls := findClass_of_methodNamed Bd.named
  have hnm := (name_of_methodNamed Bd.named Bd.method).1
  have X0 : Stand p l e ({ frames := 0, cells := 0, slots := 0, locals := 0 } : Room) s m #[(.ref a1)] below meth c s₁ [] 0 0 := Stand.of_body Bd
  have e0 : s₁.heap = h0 := by rw [← hh, Bd.state]; rfl
  have N0 := Fr.nil n0
  have pre0 : ∀ t, Steps p.tables e below (s₁.setTop (mkF m 0 #[.val (.ref a1)] [])) t → Steps p.tables e below (s₁.setTop (entryFrame m #[(.ref a1)] 1)) t := fun t k => castTop (ef_1 m a1) k
  obtain ⟨cl, Ar, S, M, H⟩ := B
  have q1 : ∀ t, Steps p.tables e below (s₁.setTop (mkF m 3 #[.val (.ref a1)] [(.int (1 : Int32)), (.int N)])) t → Steps p.tables e below (s₁.setTop (entryFrame m #[(.ref a1)] 1)) t := fun t k => pre0 t (by
      show Steps p.tables e below (s₁.setTop (mkF m 0 #[.val (.ref a1)] [])) _
      refine XS.aloadN X0.here hx rfl (hb hby d1_0) rfl rfl ?_
      show Steps p.tables e below (s₁.setTop (mkF m 1 #[.val (.ref a1)] [(.ref a1)])) _
      refine X0.arraylength hx (cell := cl) (by rw [e0]; exact Ar.1) (State.isArrayOf_alike hZ.alike Ar.2.1) (g := (mkF m 1 #[.val (.ref a1)] [(.ref a1)])) rfl (rest := []) rfl (hb hby d1_1) _ ?_
      rw [len_of S M]
      show Steps p.tables e below (s₁.setTop (mkF m 2 #[.val (.ref a1)] [(.int N)])) _
      refine XS.iconst X0.here hx rfl (hb hby d1_2) ?_
      show Steps p.tables e below (s₁.setTop (mkF m 3 #[.val (.ref a1)] [(.int (1 : Int32)), (.int N)])) _
      exact k)
  by_cases k2 : N < (1 : Int32)
  · skip
    have q3 : ∀ t, Steps p.tables e below (s₁.setTop (mkF m 18 #[.val (.ref a1)] [(.int (0 : Int32))])) t → Steps p.tables e below (s₁.setTop (entryFrame m #[(.ref a1)] 1)) t := fun t k => q1 t (by
        show Steps p.tables e below (s₁.setTop (mkF m 3 #[.val (.ref a1)] [(.int (1 : Int32)), (.int N)])) _
        refine XS.icmpYes X0.here hx rfl (pc0 := 3) (pc' := 17) rfl (hb hby d1_3) rfl (XT.ii_lt_t (k2 : N < (1 : Int32))) (by decide) (by decide) ?_
        show Steps p.tables e below (s₁.setTop (mkF m 17 #[.val (.ref a1)] [])) _
        refine XS.iconst X0.here hx rfl (hb hby d1_17) ?_
        show Steps p.tables e below (s₁.setTop (mkF m 18 #[.val (.ref a1)] [(.int (0 : Int32))])) _
        exact k)
    obtain ⟨fs, hr, hrun, hended, hW, hsame⟩ := X0.leave (v := some (.int (0 : Int32))) (fun h => by rw [Bd.returns] at h; cases h)
    refine ⟨_, _, q3 _ ?_, hrun, hended, _, _, rfl, ?_, ⟨_, rfl⟩, hW, hsame.mono (by decide) (by decide)⟩
    · show Steps p.tables e below (s₁.setTop (mkF m 18 #[.val (.ref a1)] [(.int (0 : Int32))])) _
      exact retN X0 hx (t := .boolean) Bd.returns (by simp) (hb hby d1_18) hr
    · show QN (own_acc N) h0 n0 _ s₁.heap _
      exact ⟨by unfold own_acc; rw [if_pos k2], N0, e0⟩
  · skip
    have q4 : ∀ t, Steps p.tables e below (s₁.setTop (mkF m 10 #[.val (.ref a1)] [(.int (127 : Int32)), (.int N)])) t → Steps p.tables e below (s₁.setTop (entryFrame m #[(.ref a1)] 1)) t := fun t k => q1 t (by
        show Steps p.tables e below (s₁.setTop (mkF m 3 #[.val (.ref a1)] [(.int (1 : Int32)), (.int N)])) _
        refine XS.icmpNo X0.here hx rfl (hb hby d1_3) rfl (XT.ii_lt_f (k2 : ¬ (N < (1 : Int32)))) ?_
        show Steps p.tables e below (s₁.setTop (mkF m 6 #[.val (.ref a1)] [])) _
        refine XS.aloadN X0.here hx rfl (hb hby d1_6) rfl rfl ?_
        show Steps p.tables e below (s₁.setTop (mkF m 7 #[.val (.ref a1)] [(.ref a1)])) _
        refine X0.arraylength hx (cell := cl) (by rw [e0]; exact Ar.1) (State.isArrayOf_alike hZ.alike Ar.2.1) (g := (mkF m 7 #[.val (.ref a1)] [(.ref a1)])) rfl (rest := []) rfl (hb hby d1_7) _ ?_
        rw [len_of S M]
        show Steps p.tables e below (s₁.setTop (mkF m 8 #[.val (.ref a1)] [(.int N)])) _
        refine XS.bipush X0.here hx rfl (hb hby d1_8) ?_
        show Steps p.tables e below (s₁.setTop (mkF m 10 #[.val (.ref a1)] [(.int (127 : Int32)), (.int N)])) _
        exact k)
    by_cases k5 : (127 : Int32) < N
    · skip
      have q6 : ∀ t, Steps p.tables e below (s₁.setTop (mkF m 18 #[.val (.ref a1)] [(.int (0 : Int32))])) t → Steps p.tables e below (s₁.setTop (entryFrame m #[(.ref a1)] 1)) t := fun t k => q4 t (by
          show Steps p.tables e below (s₁.setTop (mkF m 10 #[.val (.ref a1)] [(.int (127 : Int32)), (.int N)])) _
          refine XS.icmpYes X0.here hx rfl (pc0 := 10) (pc' := 17) rfl (hb hby d1_10) rfl (XT.ii_gt_t (k5 : (127 : Int32) < N)) (by decide) (by decide) ?_
          show Steps p.tables e below (s₁.setTop (mkF m 17 #[.val (.ref a1)] [])) _
          refine XS.iconst X0.here hx rfl (hb hby d1_17) ?_
          show Steps p.tables e below (s₁.setTop (mkF m 18 #[.val (.ref a1)] [(.int (0 : Int32))])) _
          exact k)
      obtain ⟨fs, hr, hrun, hended, hW, hsame⟩ := X0.leave (v := some (.int (0 : Int32))) (fun h => by rw [Bd.returns] at h; cases h)
      refine ⟨_, _, q6 _ ?_, hrun, hended, _, _, rfl, ?_, ⟨_, rfl⟩, hW, hsame.mono (by decide) (by decide)⟩
      · show Steps p.tables e below (s₁.setTop (mkF m 18 #[.val (.ref a1)] [(.int (0 : Int32))])) _
        exact retN X0 hx (t := .boolean) Bd.returns (by simp) (hb hby d1_18) hr
      · show QN (own_acc N) h0 n0 _ s₁.heap _
        exact ⟨by unfold own_acc; rw [if_neg k2, if_pos k5], N0, e0⟩
    · skip
      have q7 : ∀ t, Steps p.tables e below (s₁.setTop (mkF m 18 #[.val (.ref a1)] [(.int (1 : Int32))])) t → Steps p.tables e below (s₁.setTop (entryFrame m #[(.ref a1)] 1)) t := fun t k => q4 t (by
          show Steps p.tables e below (s₁.setTop (mkF m 10 #[.val (.ref a1)] [(.int (127 : Int32)), (.int N)])) _
          refine XS.icmpNo X0.here hx rfl (hb hby d1_10) rfl (XT.ii_gt_f (k5 : ¬ ((127 : Int32) < N))) ?_
          show Steps p.tables e below (s₁.setTop (mkF m 13 #[.val (.ref a1)] [])) _
          refine XS.iconst X0.here hx rfl (hb hby d1_13) ?_
          show Steps p.tables e below (s₁.setTop (mkF m 14 #[.val (.ref a1)] [(.int (1 : Int32))])) _
          refine XS.goto X0.here hx rfl (pc0 := 14) (pc' := 18) rfl (hb hby d1_14) (by decide) (by decide) ?_
          show Steps p.tables e below (s₁.setTop (mkF m 18 #[.val (.ref a1)] [(.int (1 : Int32))])) _
          exact k)
      obtain ⟨fs, hr, hrun, hended, hW, hsame⟩ := X0.leave (v := some (.int (1 : Int32))) (fun h => by rw [Bd.returns] at h; cases h)
      refine ⟨_, _, q7 _ ?_, hrun, hended, _, _, rfl, ?_, ⟨_, rfl⟩, hW, hsame.mono (by decide) (by decide)⟩
      · show Steps p.tables e below (s₁.setTop (mkF m 18 #[.val (.ref a1)] [(.int (1 : Int32))])) _
        exact retN X0 hx (t := .boolean) Bd.returns (by simp) (hb hby d1_18) hr
      · show QN (own_acc N) h0 n0 _ s₁.heap _
        exact ⟨by unfold own_acc; rw [if_neg k2, if_neg k5], N0, e0⟩
def QL (n0 : Nat) (v : Option Value) (h : Heap) (L : List Loc) : Prop := v = some (.int (1 : Int32)) ∧ Fr n0 L
theorem pn_cardwright_core_PinAcceptablePinLaw : plainName "cardwright/core/PinAcceptablePinLaw" = true := by first | (simp [plainName, overriddenIn]; done) | decide +kernel
theorem ef_0 (m : MethodId) (p1 : Int32) (p2 : Int32) (p3 : Int32) : entryFrame m #[(.int p1), (.int p2), (.int p3)] maxLocals = mkF m 0 #[.val (.int p1), .val (.int p2), .val (.int p3), .unset, .unset, .unset, .unset, .unset] [] := by first | (simp [entryFrame, mkF, argsToLocals, Value.category, maxLocals]; done) | rfl
theorem pd___B_Z : parseMethodDescriptor "([B)Z" = some ⟨[(.array .byte)], some .boolean⟩ := by decide +kernel
set_option maxRecDepth 65536 in
set_option maxHeartbeats 40000000 in
theorem rm0 (l : Launch) (Z : State) (a0 : Array Value) (hw : ∀ d ∈ tables_1, d.before a0 Z = true) (ws : List Jvm.Cond) (p1 : Int32) (p2 : Int32) (p3 : Int32) (h0 : Heap) (n0 : Nat) (Z0 : n0 ≤ h0.size) :
    MetFree l x (head1 (Jvm.Cond.code x code maxLocals ret :: ws) room_1) (fun a U => a = #[(.int p1), (.int p2), (.int p3)] ∧ Z.Warmed39 U.vm ∧ U.heap = h0) (fun _ _ _ _ _ => True) (fun _ U o U' => ∃ v L, o = .returned v ∧ QL n0 v U'.heap L ∧ FrameEnd U o U' L room_1.cells room_1.slots) := by
  refine MetFree.of_bodySF (plainFor_of_name pn_cardwright_core_PinAcceptablePinLaw) hisR ?_
  intro p e s m args below meth c s₁ Bd hml0 hP hK
  obtain ⟨rfl, hZ, hh⟩ := hP
  have hx := Bd.exec
  have hby := Bd.bytes
  have hml : c.maxLocals = 8 := hml0
  have hown : s.vm.findClass "cardwright/core/PinAcceptablePinLaw" = some m.cls := findClass_of_methodNamed Bd.named
  have hnm := (name_of_methodNamed Bd.named Bd.method).1
  have X0 : Stand p l e room_1 s m #[(.int p1), (.int p2), (.int p3)] below meth c s₁ [] 0 0 := Stand.of_body Bd
  have e0 : s₁.heap = h0 := by rw [← hh, Bd.state]; rfl
  have N0 := Fr.nil n0
  have pre0 : ∀ t, Steps p.tables e below (s₁.setTop (mkF m 0 #[.val (.int p1), .val (.int p2), .val (.int p3), .unset, .unset, .unset, .unset, .unset] [])) t → Steps p.tables e below (s₁.setTop (entryFrame m #[(.int p1), (.int p2), (.int p3)] maxLocals)) t := fun t k => castTop (ef_0 m p1 p2 p3) k
  have lit_0 : (0 : Int32).toInt = 0 := rfl
  have lit_1 : (1 : Int32).toInt = 1 := rfl
  have lit_127 : (127 : Int32).toInt = 127 := rfl
  have lit_255 : (255 : Int32).toInt = 255 := rfl
  obtain ⟨N, eN⟩ : ∃ N, N = (p1 &&& (255 : Int32)) := ⟨_, rfl⟩
  have hN : 0 ≤ N.toInt ∧ N.toInt ≤ 255 := by have q := c_and p1 (255 : Int32) (by omega); rw [← eN] at q; omega
  have hneg : ¬ N < 0 := own_nlt (by omega)
  have hcap : N.toNatClampNeg ≤ 255 := by simp only [Int32.toNatClampNeg]; omega
  have q8 : ∀ t, Steps p.tables e below (s₁.setTop (mkF m 6 #[.val (.int p1), .val (.int p2), .val (.int p3), .val (.int (p1 &&& (255 : Int32))), .unset, .unset, .unset, .unset] [])) t → Steps p.tables e below (s₁.setTop (entryFrame m #[(.int p1), (.int p2), (.int p3)] maxLocals)) t := fun t k => pre0 t (by
      show Steps p.tables e below (s₁.setTop (mkF m 0 #[.val (.int p1), .val (.int p2), .val (.int p3), .unset, .unset, .unset, .unset, .unset] [])) _
      refine XS.iloadN X0.here hx rfl (hb hby at_0) rfl ?_
      show Steps p.tables e below (s₁.setTop (mkF m 1 #[.val (.int p1), .val (.int p2), .val (.int p3), .unset, .unset, .unset, .unset, .unset] [(.int p1)])) _
      refine XS.sipush X0.here hx rfl (hb hby at_1) ?_
      show Steps p.tables e below (s₁.setTop (mkF m 4 #[.val (.int p1), .val (.int p2), .val (.int p3), .unset, .unset, .unset, .unset, .unset] [(.int (255 : Int32)), (.int p1)])) _
      refine XS.iand X0.here hx rfl (hb hby at_4) rfl ?_
      show Steps p.tables e below (s₁.setTop (mkF m 5 #[.val (.int p1), .val (.int p2), .val (.int p3), .unset, .unset, .unset, .unset, .unset] [(.int (p1 &&& (255 : Int32)))])) _
      refine XS.istoreN X0.here hx rfl (hb hby at_5) rfl (l' := #[.val (.int p1), .val (.int p2), .val (.int p3), .val (.int (p1 &&& (255 : Int32))), .unset, .unset, .unset, .unset]) rfl ?_
      show Steps p.tables e below (s₁.setTop (mkF m 6 #[.val (.int p1), .val (.int p2), .val (.int p3), .val (.int (p1 &&& (255 : Int32))), .unset, .unset, .unset, .unset] [])) _
      exact k)
  have q9 : ∀ t, Steps p.tables e below (s₁.setTop (mkF m 6 #[.val (.int p1), .val (.int p2), .val (.int p3), .val (.int N), .unset, .unset, .unset, .unset] [])) t → Steps p.tables e below (s₁.setTop (entryFrame m #[(.int p1), (.int p2), (.int p3)] maxLocals)) t := fun t k => q8 t (by rw [show (p1 &&& (255 : Int32)) = N from (eN).symm]; exact k)
  have q10 : ∀ t, Steps p.tables e below (s₁.setTop (mkF m 7 #[.val (.int p1), .val (.int p2), .val (.int p3), .val (.int N), .unset, .unset, .unset, .unset] [(.int N)])) t → Steps p.tables e below (s₁.setTop (entryFrame m #[(.int p1), (.int p2), (.int p3)] maxLocals)) t := fun t k => q9 t (by
      show Steps p.tables e below (s₁.setTop (mkF m 6 #[.val (.int p1), .val (.int p2), .val (.int p3), .val (.int N), .unset, .unset, .unset, .unset] [])) _
      refine XS.iloadN X0.here hx rfl (hb hby at_6) rfl ?_
      show Steps p.tables e below (s₁.setTop (mkF m 7 #[.val (.int p1), .val (.int p2), .val (.int p3), .val (.int N), .unset, .unset, .unset, .unset] [(.int N)])) _
      exact k)
  obtain ⟨T11, h11, k11, X11, e11, E11, A11, st11⟩ := newP X0 hx hZ (hw _ (List.mem_of_getElem? (i := 0) rfl)) e0 (g := (mkF m 7 #[.val (.int p1), .val (.int p2), .val (.int p3), .val (.int N), .unset, .unset, .unset, .unset] [(.int N)])) rfl (hb hby at_7) rfl (hneg) (cap := 255) (hcap) (by decide) (by decide) (by decide)
  obtain ⟨b11, g11⟩ : ∃ z, z = h0.size := ⟨_, rfl⟩
  rw [← g11] at A11 st11
  have q12 : ∀ t, Steps p.tables e below (T11.setTop (mkF m 9 #[.val (.int p1), .val (.int p2), .val (.int p3), .val (.int N), .unset, .unset, .unset, .unset] [(.ref b11)])) t → Steps p.tables e below (s₁.setTop (entryFrame m #[(.int p1), (.int p2), (.int p3)] maxLocals)) t := fun t k => q10 t (st11 t k)
  have Z11 : n0 ≤ h11.size := Nat.le_trans Z0 E11.1
  have g_b : n0 ≤ b11 := Nat.le_trans Z0 (Nat.le_of_eq g11.symm)
  have B0 : Bt Z h11 b11 N (fun _ => 0) := Bt.new A11 hneg
  have q13 : ∀ t, Steps p.tables e below (T11.setTop (mkF m 12 #[.val (.int p1), .val (.int p2), .val (.int p3), .val (.int N), .val (.ref b11), .unset, .unset, .unset] [(.int N)])) t → Steps p.tables e below (s₁.setTop (entryFrame m #[(.int p1), (.int p2), (.int p3)] maxLocals)) t := fun t k => q12 t (by
      show Steps p.tables e below (T11.setTop (mkF m 9 #[.val (.int p1), .val (.int p2), .val (.int p3), .val (.int N), .unset, .unset, .unset, .unset] [(.ref b11)])) _
      refine XS.astore X11.here hx rfl (hb hby at_9) rfl rfl (l' := #[.val (.int p1), .val (.int p2), .val (.int p3), .val (.int N), .val (.ref b11), .unset, .unset, .unset]) rfl ?_
      show Steps p.tables e below (T11.setTop (mkF m 11 #[.val (.int p1), .val (.int p2), .val (.int p3), .val (.int N), .val (.ref b11), .unset, .unset, .unset] [])) _
      refine XS.iloadN X11.here hx rfl (hb hby at_11) rfl ?_
      show Steps p.tables e below (T11.setTop (mkF m 12 #[.val (.int p1), .val (.int p2), .val (.int p3), .val (.int N), .val (.ref b11), .unset, .unset, .unset] [(.int N)])) _
      exact k)
  by_cases kp : (0 : Int32) < N
  · skip
    have kp' : 0 < N.toInt := Int32.lt_iff_toInt_lt.mp kp
    have hs1 : (N - (1 : Int32)).toInt = N.toInt - 1 := by have q1 := c_isub N (1 : Int32); have q2 := rng32 (N - (1 : Int32)); omega
    obtain ⟨cl, Ar, S, M, H⟩ := B0
    have q14 : ∀ t, Steps p.tables e below (T11.setTop (mkF m 20 #[.val (.int p1), .val (.int p2), .val (.int p3), .val (.int N), .val (.ref b11), .unset, .unset, .unset] [(.int (p2.toInt8.toInt32)), (.int (0 : Int32)), (.ref b11)])) t → Steps p.tables e below (s₁.setTop (entryFrame m #[(.int p1), (.int p2), (.int p3)] maxLocals)) t := fun t k => q13 t (by
        show Steps p.tables e below (T11.setTop (mkF m 12 #[.val (.int p1), .val (.int p2), .val (.int p3), .val (.int N), .val (.ref b11), .unset, .unset, .unset] [(.int N)])) _
        refine XS.ifNo X11.here hx rfl (hb hby at_12) rfl (XT.i0_le_f (kp : (0 : Int32) < N)) ?_
        show Steps p.tables e below (T11.setTop (mkF m 15 #[.val (.int p1), .val (.int p2), .val (.int p3), .val (.int N), .val (.ref b11), .unset, .unset, .unset] [])) _
        refine XS.aload X11.here hx rfl (hb hby at_15) rfl rfl ?_
        show Steps p.tables e below (T11.setTop (mkF m 17 #[.val (.int p1), .val (.int p2), .val (.int p3), .val (.int N), .val (.ref b11), .unset, .unset, .unset] [(.ref b11)])) _
        refine XS.iconst X11.here hx rfl (hb hby at_17) ?_
        show Steps p.tables e below (T11.setTop (mkF m 18 #[.val (.int p1), .val (.int p2), .val (.int p3), .val (.int N), .val (.ref b11), .unset, .unset, .unset] [(.int (0 : Int32)), (.ref b11)])) _
        refine XS.iloadN X11.here hx rfl (hb hby at_18) rfl ?_
        show Steps p.tables e below (T11.setTop (mkF m 19 #[.val (.int p1), .val (.int p2), .val (.int p3), .val (.int N), .val (.ref b11), .unset, .unset, .unset] [(.int p2), (.int (0 : Int32)), (.ref b11)])) _
        refine XS.i2b X11.here hx rfl (hb hby at_19) rfl ?_
        show Steps p.tables e below (T11.setTop (mkF m 20 #[.val (.int p1), .val (.int p2), .val (.int p3), .val (.int N), .val (.ref b11), .unset, .unset, .unset] [(.int (p2.toInt8.toInt32)), (.int (0 : Int32)), (.ref b11)])) _
        exact k)
    obtain ⟨T15, h15, X15, e15, W15, st15⟩ := stB X11 hx hZ e11 (Ar) (j := (0 : Int32)) (inb_of S ⟨by decide, kp⟩) (g := (mkF m 20 #[.val (.int p1), .val (.int p2), .val (.int p3), .val (.int N), .val (.ref b11), .unset, .unset, .unset] [(.int (p2.toInt8.toInt32)), (.int (0 : Int32)), (.ref b11)])) rfl rfl (hb hby at_20)
    have N15 := Fr.snoc X15 N0 (g_b)
    have q16 : ∀ t, Steps p.tables e below (T15.setTop (mkF m 21 #[.val (.int p1), .val (.int p2), .val (.int p3), .val (.int N), .val (.ref b11), .unset, .unset, .unset] [])) t → Steps p.tables e below (s₁.setTop (entryFrame m #[(.int p1), (.int p2), (.int p3)] maxLocals)) t := fun t k => q14 t (st15 t k)
    have Z15 : n0 ≤ h15.size := Nat.le_trans Z11 (Keep.of_wr W15).1
    have B1 := Bt.set Ar S M H W15
    obtain ⟨cl1, Ar1, S1, M1, H1⟩ := B1
    have hj : ¬ ((N - (1 : Int32)) < 0 ∨ cl1.slots.size ≤ (N - (1 : Int32)).toNatClampNeg) := inb_of S1 ⟨own_nlt (by omega), own_lt (by omega)⟩
    have q17 : ∀ t, Steps p.tables e below (T15.setTop (mkF m 28 #[.val (.int p1), .val (.int p2), .val (.int p3), .val (.int N), .val (.ref b11), .unset, .unset, .unset] [(.int (p3.toInt8.toInt32)), (.int (N - (1 : Int32))), (.ref b11)])) t → Steps p.tables e below (s₁.setTop (entryFrame m #[(.int p1), (.int p2), (.int p3)] maxLocals)) t := fun t k => q16 t (by
        show Steps p.tables e below (T15.setTop (mkF m 21 #[.val (.int p1), .val (.int p2), .val (.int p3), .val (.int N), .val (.ref b11), .unset, .unset, .unset] [])) _
        refine XS.aload X15.here hx rfl (hb hby at_21) rfl rfl ?_
        show Steps p.tables e below (T15.setTop (mkF m 23 #[.val (.int p1), .val (.int p2), .val (.int p3), .val (.int N), .val (.ref b11), .unset, .unset, .unset] [(.ref b11)])) _
        refine XS.iloadN X15.here hx rfl (hb hby at_23) rfl ?_
        show Steps p.tables e below (T15.setTop (mkF m 24 #[.val (.int p1), .val (.int p2), .val (.int p3), .val (.int N), .val (.ref b11), .unset, .unset, .unset] [(.int N), (.ref b11)])) _
        refine XS.iconst X15.here hx rfl (hb hby at_24) ?_
        show Steps p.tables e below (T15.setTop (mkF m 25 #[.val (.int p1), .val (.int p2), .val (.int p3), .val (.int N), .val (.ref b11), .unset, .unset, .unset] [(.int (1 : Int32)), (.int N), (.ref b11)])) _
        refine XS.isub X15.here hx rfl (hb hby at_25) rfl ?_
        show Steps p.tables e below (T15.setTop (mkF m 26 #[.val (.int p1), .val (.int p2), .val (.int p3), .val (.int N), .val (.ref b11), .unset, .unset, .unset] [(.int (N - (1 : Int32))), (.ref b11)])) _
        refine XS.iloadN X15.here hx rfl (hb hby at_26) rfl ?_
        show Steps p.tables e below (T15.setTop (mkF m 27 #[.val (.int p1), .val (.int p2), .val (.int p3), .val (.int N), .val (.ref b11), .unset, .unset, .unset] [(.int p3), (.int (N - (1 : Int32))), (.ref b11)])) _
        refine XS.i2b X15.here hx rfl (hb hby at_27) rfl ?_
        show Steps p.tables e below (T15.setTop (mkF m 28 #[.val (.int p1), .val (.int p2), .val (.int p3), .val (.int N), .val (.ref b11), .unset, .unset, .unset] [(.int (p3.toInt8.toInt32)), (.int (N - (1 : Int32))), (.ref b11)])) _
        exact k)
    obtain ⟨T18, h18, X18, e18, W18, st18⟩ := stB X15 hx hZ e15 (Ar1) (j := (N - (1 : Int32))) (hj) (g := (mkF m 28 #[.val (.int p1), .val (.int p2), .val (.int p3), .val (.int N), .val (.ref b11), .unset, .unset, .unset] [(.int (p3.toInt8.toInt32)), (.int (N - (1 : Int32))), (.ref b11)])) rfl rfl (hb hby at_28)
    have N18 := Fr.snoc X18 N15 (g_b)
    have q19 : ∀ t, Steps p.tables e below (T18.setTop (mkF m 29 #[.val (.int p1), .val (.int p2), .val (.int p3), .val (.int N), .val (.ref b11), .unset, .unset, .unset] [])) t → Steps p.tables e below (s₁.setTop (entryFrame m #[(.int p1), (.int p2), (.int p3)] maxLocals)) t := fun t k => q17 t (st18 t k)
    have Z18 : n0 ≤ h18.size := Nat.le_trans Z15 (Keep.of_wr W18).1
    have B2 := Bt.set Ar1 S1 M1 H1 W18
    have q20 : ∀ t, Steps p.tables e below (T18.setTop (mkF m 37 #[.val (.int p1), .val (.int p2), .val (.int p3), .val (.int N), .val (.ref b11), .unset, .unset, .unset] [(.int (127 : Int32)), (.int N)])) t → Steps p.tables e below (s₁.setTop (entryFrame m #[(.int p1), (.int p2), (.int p3)] maxLocals)) t := fun t k => q19 t (by
        show Steps p.tables e below (T18.setTop (mkF m 29 #[.val (.int p1), .val (.int p2), .val (.int p3), .val (.int N), .val (.ref b11), .unset, .unset, .unset] [])) _
        refine XS.iloadN X18.here hx rfl (hb hby at_29) rfl ?_
        show Steps p.tables e below (T18.setTop (mkF m 30 #[.val (.int p1), .val (.int p2), .val (.int p3), .val (.int N), .val (.ref b11), .unset, .unset, .unset] [(.int N)])) _
        refine XS.iconst X18.here hx rfl (hb hby at_30) ?_
        show Steps p.tables e below (T18.setTop (mkF m 31 #[.val (.int p1), .val (.int p2), .val (.int p3), .val (.int N), .val (.ref b11), .unset, .unset, .unset] [(.int (1 : Int32)), (.int N)])) _
        refine XS.icmpNo X18.here hx rfl (hb hby at_31) rfl (XT.ii_lt_f (own_nlt (by omega) : ¬ (N < (1 : Int32)))) ?_
        show Steps p.tables e below (T18.setTop (mkF m 34 #[.val (.int p1), .val (.int p2), .val (.int p3), .val (.int N), .val (.ref b11), .unset, .unset, .unset] [])) _
        refine XS.iloadN X18.here hx rfl (hb hby at_34) rfl ?_
        show Steps p.tables e below (T18.setTop (mkF m 35 #[.val (.int p1), .val (.int p2), .val (.int p3), .val (.int N), .val (.ref b11), .unset, .unset, .unset] [(.int N)])) _
        refine XS.bipush X18.here hx rfl (hb hby at_35) ?_
        show Steps p.tables e below (T18.setTop (mkF m 37 #[.val (.int p1), .val (.int p2), .val (.int p3), .val (.int N), .val (.ref b11), .unset, .unset, .unset] [(.int (127 : Int32)), (.int N)])) _
        exact k)
    by_cases k127 : (127 : Int32) < N
    · skip
      have q21 : ∀ t, Steps p.tables e below (T18.setTop (mkF m 49 #[.val (.int p1), .val (.int p2), .val (.int p3), .val (.int N), .val (.ref b11), .val (.int (0 : Int32)), .unset, .unset] [(.ref b11)])) t → Steps p.tables e below (s₁.setTop (entryFrame m #[(.int p1), (.int p2), (.int p3)] maxLocals)) t := fun t k => q20 t (by
          show Steps p.tables e below (T18.setTop (mkF m 37 #[.val (.int p1), .val (.int p2), .val (.int p3), .val (.int N), .val (.ref b11), .unset, .unset, .unset] [(.int (127 : Int32)), (.int N)])) _
          refine XS.icmpYes X18.here hx rfl (pc0 := 37) (pc' := 44) rfl (hb hby at_37) rfl (XT.ii_gt_t (k127 : (127 : Int32) < N)) (by decide) (by decide) ?_
          show Steps p.tables e below (T18.setTop (mkF m 44 #[.val (.int p1), .val (.int p2), .val (.int p3), .val (.int N), .val (.ref b11), .unset, .unset, .unset] [])) _
          refine XS.iconst X18.here hx rfl (hb hby at_44) ?_
          show Steps p.tables e below (T18.setTop (mkF m 45 #[.val (.int p1), .val (.int p2), .val (.int p3), .val (.int N), .val (.ref b11), .unset, .unset, .unset] [(.int (0 : Int32))])) _
          refine XS.istore X18.here hx rfl (hb hby at_45) rfl (l' := #[.val (.int p1), .val (.int p2), .val (.int p3), .val (.int N), .val (.ref b11), .val (.int (0 : Int32)), .unset, .unset]) rfl ?_
          show Steps p.tables e below (T18.setTop (mkF m 47 #[.val (.int p1), .val (.int p2), .val (.int p3), .val (.int N), .val (.ref b11), .val (.int (0 : Int32)), .unset, .unset] [])) _
          refine XS.aload X18.here hx rfl (hb hby at_47) rfl rfl ?_
          show Steps p.tables e below (T18.setTop (mkF m 49 #[.val (.int p1), .val (.int p2), .val (.int p3), .val (.int N), .val (.ref b11), .val (.int (0 : Int32)), .unset, .unset] [(.ref b11)])) _
          exact k)
      obtain ⟨_, _, ⟨T22, L22, kk22, nn22⟩, -, X22, ⟨Lc22, hQ22, l22, y22, z22⟩, st22⟩ := Jvm.LawKit.callS X18 hx (y := (⟨"cardwright/core/Pin", "acceptable", "([B)Z"⟩ : MethodName)) hown (mvT hZ (hw _ (List.mem_of_getElem? (i := 1) rfl))) (mvT hZ (hw _ (List.mem_of_getElem? (i := 2) rfl))) (mvT hZ (hw _ (List.mem_of_getElem? (i := 3) rfl))) (mvT hZ (hw _ (List.mem_of_getElem? (i := 4) rfl))) (by decide) (backOf (W := 0) (rm1 l Z a0 hw [] b11 N (_) h18 n0 Z18 B2) hZ (hw _ (List.mem_of_getElem? (i := 4) rfl)) (hw _ (List.mem_of_getElem? (i := 3) rfl)) (by decide) (by decide)) (g := (mkF m 49 #[.val (.int p1), .val (.int p2), .val (.int p3), .val (.int N), .val (.ref b11), .val (.int (0 : Int32)), .unset, .unset] [(.ref b11)])) rfl (by rw [hml]; rfl) (argsL := [(.ref b11)]) (rest := []) (lenOf pd___B_Z rfl) rfl (by show 2 * 0 + _ ≤ _; exact Nat.le_of_eq rfl) (hb hby at_49) (fun _ _ => ⟨rfl, e18, (by decide : 1 + 0 ≤ _), (by decide : 255 + 0 ≤ _)⟩)
      dsimp only [Pt.U, Pt.locs, Pt.cells, Pt.slots] at X22 l22 y22 z22 st22 hQ22
      subst l22 y22 z22
      obtain ⟨rfl, Nq22, e22⟩ := hQ22
      have N22 := Fr.app N18 Nq22
      have q23 : ∀ t, Steps p.tables e below (T22.setTop (mkF m 52 #[.val (.int p1), .val (.int p2), .val (.int p3), .val (.int N), .val (.ref b11), .val (.int (0 : Int32)), .unset, .unset] [(.int (own_acc N))])) t → Steps p.tables e below (s₁.setTop (entryFrame m #[(.int p1), (.int p2), (.int p3)] maxLocals)) t := fun t k => q21 t (st22 t k)
      obtain ⟨cl2, Ar2, S2, M2, H2⟩ := id B2
      have hj2 : ¬ ((N - (1 : Int32)) < 0 ∨ cl2.slots.size ≤ (N - (1 : Int32)).toNatClampNeg) := inb_of S2 ⟨own_nlt (by omega), own_lt (by omega)⟩
      have ha2 : cl2.slots[(N - (1 : Int32)).toNatClampNeg]? = some (.int (nar .byte (p3.toInt8.toInt32))) := by rw [H2 _ (Nat.lt_of_not_le fun y => hj2 (Or.inr y))]; exact congrArg (fun z => some (Value.int z)) (if_pos rfl)
      have q24 : ∀ t, Steps p.tables e below (T22.setTop (mkF m 71 #[.val (.int p1), .val (.int p2), .val (.int p3), .val (.int N), .val (.ref b11), .val (.int (0 : Int32)), .val (.int (own_acc N)), .unset] [(.int (1 : Int32)), (.int N)])) t → Steps p.tables e below (s₁.setTop (entryFrame m #[(.int p1), (.int p2), (.int p3)] maxLocals)) t := fun t k => q23 t (by
          show Steps p.tables e below (T22.setTop (mkF m 52 #[.val (.int p1), .val (.int p2), .val (.int p3), .val (.int N), .val (.ref b11), .val (.int (0 : Int32)), .unset, .unset] [(.int (own_acc N))])) _
          refine XS.istore X22.here hx rfl (hb hby at_52) rfl (l' := #[.val (.int p1), .val (.int p2), .val (.int p3), .val (.int N), .val (.ref b11), .val (.int (0 : Int32)), .val (.int (own_acc N)), .unset]) rfl ?_
          show Steps p.tables e below (T22.setTop (mkF m 54 #[.val (.int p1), .val (.int p2), .val (.int p3), .val (.int N), .val (.ref b11), .val (.int (0 : Int32)), .val (.int (own_acc N)), .unset] [])) _
          refine XS.iloadN X22.here hx rfl (hb hby at_54) rfl ?_
          show Steps p.tables e below (T22.setTop (mkF m 55 #[.val (.int p1), .val (.int p2), .val (.int p3), .val (.int N), .val (.ref b11), .val (.int (0 : Int32)), .val (.int (own_acc N)), .unset] [(.int N)])) _
          refine XS.ifNo X22.here hx rfl (hb hby at_55) rfl (XT.i0_eq_f (own_ne (by omega) : ¬ (N = (0 : Int32)))) ?_
          show Steps p.tables e below (T22.setTop (mkF m 58 #[.val (.int p1), .val (.int p2), .val (.int p3), .val (.int N), .val (.ref b11), .val (.int (0 : Int32)), .val (.int (own_acc N)), .unset] [])) _
          refine XS.aload X22.here hx rfl (hb hby at_58) rfl rfl ?_
          show Steps p.tables e below (T22.setTop (mkF m 60 #[.val (.int p1), .val (.int p2), .val (.int p3), .val (.int N), .val (.ref b11), .val (.int (0 : Int32)), .val (.int (own_acc N)), .unset] [(.ref b11)])) _
          refine XS.iloadN X22.here hx rfl (hb hby at_60) rfl ?_
          show Steps p.tables e below (T22.setTop (mkF m 61 #[.val (.int p1), .val (.int p2), .val (.int p3), .val (.int N), .val (.ref b11), .val (.int (0 : Int32)), .val (.int (own_acc N)), .unset] [(.int N), (.ref b11)])) _
          refine XS.iconst X22.here hx rfl (hb hby at_61) ?_
          show Steps p.tables e below (T22.setTop (mkF m 62 #[.val (.int p1), .val (.int p2), .val (.int p3), .val (.int N), .val (.ref b11), .val (.int (0 : Int32)), .val (.int (own_acc N)), .unset] [(.int (1 : Int32)), (.int N), (.ref b11)])) _
          refine XS.isub X22.here hx rfl (hb hby at_62) rfl ?_
          show Steps p.tables e below (T22.setTop (mkF m 63 #[.val (.int p1), .val (.int p2), .val (.int p3), .val (.int N), .val (.ref b11), .val (.int (0 : Int32)), .val (.int (own_acc N)), .unset] [(.int (N - (1 : Int32))), (.ref b11)])) _
          refine X22.baloadBytes hx (j := (N - (1 : Int32))) (v := (.int (nar .byte (p3.toInt8.toInt32)))) (by rw [e22]; exact Ar2.1) (State.isArrayOf_alike hZ.alike Ar2.2.1) Ar2.2.2 (hj2) (ha2) (g := (mkF m 63 #[.val (.int p1), .val (.int p2), .val (.int p3), .val (.int N), .val (.ref b11), .val (.int (0 : Int32)), .val (.int (own_acc N)), .unset] [(.int (N - (1 : Int32))), (.ref b11)])) rfl rfl (hb hby at_63) _ ?_
          show Steps p.tables e below (T22.setTop (mkF m 64 #[.val (.int p1), .val (.int p2), .val (.int p3), .val (.int N), .val (.ref b11), .val (.int (0 : Int32)), .val (.int (own_acc N)), .unset] [(.int (nar .byte (p3.toInt8.toInt32)))])) _
          refine XS.iloadN X22.here hx rfl (hb hby at_64) rfl ?_
          show Steps p.tables e below (T22.setTop (mkF m 65 #[.val (.int p1), .val (.int p2), .val (.int p3), .val (.int N), .val (.ref b11), .val (.int (0 : Int32)), .val (.int (own_acc N)), .unset] [(.int p3), (.int (nar .byte (p3.toInt8.toInt32)))])) _
          refine XS.i2b X22.here hx rfl (hb hby at_65) rfl ?_
          show Steps p.tables e below (T22.setTop (mkF m 66 #[.val (.int p1), .val (.int p2), .val (.int p3), .val (.int N), .val (.ref b11), .val (.int (0 : Int32)), .val (.int (own_acc N)), .unset] [(.int (p3.toInt8.toInt32)), (.int (nar .byte (p3.toInt8.toInt32)))])) _
          refine XS.icmpNo X22.here hx rfl (hb hby at_66) rfl (XT.ii_ne_f (own_nb _ : (nar .byte (p3.toInt8.toInt32)) = (p3.toInt8.toInt32))) ?_
          show Steps p.tables e below (T22.setTop (mkF m 69 #[.val (.int p1), .val (.int p2), .val (.int p3), .val (.int N), .val (.ref b11), .val (.int (0 : Int32)), .val (.int (own_acc N)), .unset] [])) _
          refine XS.iloadN X22.here hx rfl (hb hby at_69) rfl ?_
          show Steps p.tables e below (T22.setTop (mkF m 70 #[.val (.int p1), .val (.int p2), .val (.int p3), .val (.int N), .val (.ref b11), .val (.int (0 : Int32)), .val (.int (own_acc N)), .unset] [(.int N)])) _
          refine XS.iconst X22.here hx rfl (hb hby at_70) ?_
          show Steps p.tables e below (T22.setTop (mkF m 71 #[.val (.int p1), .val (.int p2), .val (.int p3), .val (.int N), .val (.ref b11), .val (.int (0 : Int32)), .val (.int (own_acc N)), .unset] [(.int (1 : Int32)), (.int N)])) _
          exact k)
      by_cases kn : N = (1 : Int32)
      · skip
        obtain ⟨clz, Arz, Sz, Mz, Hz⟩ := B2
        have q25 : ∀ t, Steps p.tables e below (T22.setTop (mkF m 114 #[.val (.int p1), .val (.int p2), .val (.int p3), .val (.int N), .val (.ref b11), .val (.int (0 : Int32)), .val (.int (own_acc N)), .val (.int (1 : Int32))] [(.int (1 : Int32))])) t → Steps p.tables e below (s₁.setTop (entryFrame m #[(.int p1), (.int p2), (.int p3)] maxLocals)) t := fun t k => q24 t (by
            show Steps p.tables e below (T22.setTop (mkF m 71 #[.val (.int p1), .val (.int p2), .val (.int p3), .val (.int N), .val (.ref b11), .val (.int (0 : Int32)), .val (.int (own_acc N)), .unset] [(.int (1 : Int32)), (.int N)])) _
            refine XS.icmpYes X22.here hx rfl (pc0 := 71) (pc' := 83) rfl (hb hby at_71) rfl (XT.ii_eq_t (kn : N = (1 : Int32))) (by decide) (by decide) ?_
            show Steps p.tables e below (T22.setTop (mkF m 83 #[.val (.int p1), .val (.int p2), .val (.int p3), .val (.int N), .val (.ref b11), .val (.int (0 : Int32)), .val (.int (own_acc N)), .unset] [])) _
            refine XS.iconst X22.here hx rfl (hb hby at_83) ?_
            show Steps p.tables e below (T22.setTop (mkF m 84 #[.val (.int p1), .val (.int p2), .val (.int p3), .val (.int N), .val (.ref b11), .val (.int (0 : Int32)), .val (.int (own_acc N)), .unset] [(.int (1 : Int32))])) _
            refine XS.goto X22.here hx rfl (pc0 := 84) (pc' := 88) rfl (hb hby at_84) (by decide) (by decide) ?_
            show Steps p.tables e below (T22.setTop (mkF m 88 #[.val (.int p1), .val (.int p2), .val (.int p3), .val (.int N), .val (.ref b11), .val (.int (0 : Int32)), .val (.int (own_acc N)), .unset] [(.int (1 : Int32))])) _
            refine XS.istore X22.here hx rfl (hb hby at_88) rfl (l' := #[.val (.int p1), .val (.int p2), .val (.int p3), .val (.int N), .val (.ref b11), .val (.int (0 : Int32)), .val (.int (own_acc N)), .val (.int (1 : Int32))]) rfl ?_
            show Steps p.tables e below (T22.setTop (mkF m 90 #[.val (.int p1), .val (.int p2), .val (.int p3), .val (.int N), .val (.ref b11), .val (.int (0 : Int32)), .val (.int (own_acc N)), .val (.int (1 : Int32))] [])) _
            refine XS.iload X22.here hx rfl (hb hby at_90) rfl ?_
            show Steps p.tables e below (T22.setTop (mkF m 92 #[.val (.int p1), .val (.int p2), .val (.int p3), .val (.int N), .val (.ref b11), .val (.int (0 : Int32)), .val (.int (own_acc N)), .val (.int (1 : Int32))] [(.int (own_acc N))])) _
            refine XS.iload X22.here hx rfl (hb hby at_92) rfl ?_
            show Steps p.tables e below (T22.setTop (mkF m 94 #[.val (.int p1), .val (.int p2), .val (.int p3), .val (.int N), .val (.ref b11), .val (.int (0 : Int32)), .val (.int (own_acc N)), .val (.int (1 : Int32))] [(.int (0 : Int32)), (.int (own_acc N))])) _
            refine XS.icmpNo X22.here hx rfl (hb hby at_94) rfl (XT.ii_ne_f (by unfold own_acc; rw [if_neg (own_nlt (by omega)), if_pos k127] : (own_acc N) = (0 : Int32))) ?_
            show Steps p.tables e below (T22.setTop (mkF m 97 #[.val (.int p1), .val (.int p2), .val (.int p3), .val (.int N), .val (.ref b11), .val (.int (0 : Int32)), .val (.int (own_acc N)), .val (.int (1 : Int32))] [])) _
            refine XS.iload X22.here hx rfl (hb hby at_97) rfl ?_
            show Steps p.tables e below (T22.setTop (mkF m 99 #[.val (.int p1), .val (.int p2), .val (.int p3), .val (.int N), .val (.ref b11), .val (.int (0 : Int32)), .val (.int (own_acc N)), .val (.int (1 : Int32))] [(.int (1 : Int32))])) _
            refine XS.ifNo X22.here hx rfl (hb hby at_99) rfl (XT.i0_eq_f (by decide : ¬ ((1 : Int32) = (0 : Int32)))) ?_
            show Steps p.tables e below (T22.setTop (mkF m 102 #[.val (.int p1), .val (.int p2), .val (.int p3), .val (.int N), .val (.ref b11), .val (.int (0 : Int32)), .val (.int (own_acc N)), .val (.int (1 : Int32))] [])) _
            refine XS.aload X22.here hx rfl (hb hby at_102) rfl rfl ?_
            show Steps p.tables e below (T22.setTop (mkF m 104 #[.val (.int p1), .val (.int p2), .val (.int p3), .val (.int N), .val (.ref b11), .val (.int (0 : Int32)), .val (.int (own_acc N)), .val (.int (1 : Int32))] [(.ref b11)])) _
            refine X22.arraylength hx (cell := clz) (by rw [e22]; exact Arz.1) (State.isArrayOf_alike hZ.alike Arz.2.1) (g := (mkF m 104 #[.val (.int p1), .val (.int p2), .val (.int p3), .val (.int N), .val (.ref b11), .val (.int (0 : Int32)), .val (.int (own_acc N)), .val (.int (1 : Int32))] [(.ref b11)])) rfl (rest := []) rfl (hb hby at_104) _ ?_
            rw [len_of Sz Mz]
            show Steps p.tables e below (T22.setTop (mkF m 105 #[.val (.int p1), .val (.int p2), .val (.int p3), .val (.int N), .val (.ref b11), .val (.int (0 : Int32)), .val (.int (own_acc N)), .val (.int (1 : Int32))] [(.int N)])) _
            refine XS.iloadN X22.here hx rfl (hb hby at_105) rfl ?_
            show Steps p.tables e below (T22.setTop (mkF m 106 #[.val (.int p1), .val (.int p2), .val (.int p3), .val (.int N), .val (.ref b11), .val (.int (0 : Int32)), .val (.int (own_acc N)), .val (.int (1 : Int32))] [(.int N), (.int N)])) _
            refine XS.icmpNo X22.here hx rfl (hb hby at_106) rfl (XT.ii_ne_f (rfl : N = N)) ?_
            show Steps p.tables e below (T22.setTop (mkF m 109 #[.val (.int p1), .val (.int p2), .val (.int p3), .val (.int N), .val (.ref b11), .val (.int (0 : Int32)), .val (.int (own_acc N)), .val (.int (1 : Int32))] [])) _
            refine XS.iconst X22.here hx rfl (hb hby at_109) ?_
            show Steps p.tables e below (T22.setTop (mkF m 110 #[.val (.int p1), .val (.int p2), .val (.int p3), .val (.int N), .val (.ref b11), .val (.int (0 : Int32)), .val (.int (own_acc N)), .val (.int (1 : Int32))] [(.int (1 : Int32))])) _
            refine XS.goto X22.here hx rfl (pc0 := 110) (pc' := 114) rfl (hb hby at_110) (by decide) (by decide) ?_
            show Steps p.tables e below (T22.setTop (mkF m 114 #[.val (.int p1), .val (.int p2), .val (.int p3), .val (.int N), .val (.ref b11), .val (.int (0 : Int32)), .val (.int (own_acc N)), .val (.int (1 : Int32))] [(.int (1 : Int32))])) _
            exact k)
        obtain ⟨fs, hr, hrun, hended, hW, hsame⟩ := X22.leave (v := some (.int (1 : Int32))) (fun h => by rw [Bd.returns] at h; cases h)
        refine ⟨_, _, q25 _ ?_, hrun, hended, _, _, rfl, ?_, ⟨_, rfl⟩, hW, hsame.mono (by decide) (by decide)⟩
        · show Steps p.tables e below (T22.setTop (mkF m 114 #[.val (.int p1), .val (.int p2), .val (.int p3), .val (.int N), .val (.ref b11), .val (.int (0 : Int32)), .val (.int (own_acc N)), .val (.int (1 : Int32))] [(.int (1 : Int32))])) _
          exact retN X22 hx (t := .boolean) Bd.returns (by simp) (hb hby at_114) hr
        · show QL n0 _ T22.heap _
          exact ⟨rfl, N22⟩
      · skip
        have kn' : ¬ N.toInt = 1 := fun y => kn (own_eq (y.trans lit_1.symm))
        have hz2 : ¬ ((0 : Int32) < 0 ∨ cl2.slots.size ≤ (0 : Int32).toNatClampNeg) := inb_of S2 ⟨by decide, kp⟩
        have hc2 : ¬ (0 : Int32).toNatClampNeg = (N - (1 : Int32)).toNatClampNeg := by simp only [Int32.toNatClampNeg]; omega
        have hz3 : cl2.slots[(0 : Int32).toNatClampNeg]? = some (.int (nar .byte (p2.toInt8.toInt32))) := by rw [H2 _ (Nat.lt_of_not_le fun y => hz2 (Or.inr y))]; exact congrArg (fun z => some (Value.int z)) ((if_neg hc2).trans (if_pos rfl))
        obtain ⟨clz, Arz, Sz, Mz, Hz⟩ := B2
        have q26 : ∀ t, Steps p.tables e below (T22.setTop (mkF m 114 #[.val (.int p1), .val (.int p2), .val (.int p3), .val (.int N), .val (.ref b11), .val (.int (0 : Int32)), .val (.int (own_acc N)), .val (.int (1 : Int32))] [(.int (1 : Int32))])) t → Steps p.tables e below (s₁.setTop (entryFrame m #[(.int p1), (.int p2), (.int p3)] maxLocals)) t := fun t k => q24 t (by
            show Steps p.tables e below (T22.setTop (mkF m 71 #[.val (.int p1), .val (.int p2), .val (.int p3), .val (.int N), .val (.ref b11), .val (.int (0 : Int32)), .val (.int (own_acc N)), .unset] [(.int (1 : Int32)), (.int N)])) _
            refine XS.icmpNo X22.here hx rfl (hb hby at_71) rfl (XT.ii_eq_f (kn : ¬ (N = (1 : Int32)))) ?_
            show Steps p.tables e below (T22.setTop (mkF m 74 #[.val (.int p1), .val (.int p2), .val (.int p3), .val (.int N), .val (.ref b11), .val (.int (0 : Int32)), .val (.int (own_acc N)), .unset] [])) _
            refine XS.aload X22.here hx rfl (hb hby at_74) rfl rfl ?_
            show Steps p.tables e below (T22.setTop (mkF m 76 #[.val (.int p1), .val (.int p2), .val (.int p3), .val (.int N), .val (.ref b11), .val (.int (0 : Int32)), .val (.int (own_acc N)), .unset] [(.ref b11)])) _
            refine XS.iconst X22.here hx rfl (hb hby at_76) ?_
            show Steps p.tables e below (T22.setTop (mkF m 77 #[.val (.int p1), .val (.int p2), .val (.int p3), .val (.int N), .val (.ref b11), .val (.int (0 : Int32)), .val (.int (own_acc N)), .unset] [(.int (0 : Int32)), (.ref b11)])) _
            refine X22.baloadBytes hx (j := (0 : Int32)) (v := (.int (nar .byte (p2.toInt8.toInt32)))) (by rw [e22]; exact Ar2.1) (State.isArrayOf_alike hZ.alike Ar2.2.1) Ar2.2.2 (hz2) (hz3) (g := (mkF m 77 #[.val (.int p1), .val (.int p2), .val (.int p3), .val (.int N), .val (.ref b11), .val (.int (0 : Int32)), .val (.int (own_acc N)), .unset] [(.int (0 : Int32)), (.ref b11)])) rfl rfl (hb hby at_77) _ ?_
            show Steps p.tables e below (T22.setTop (mkF m 78 #[.val (.int p1), .val (.int p2), .val (.int p3), .val (.int N), .val (.ref b11), .val (.int (0 : Int32)), .val (.int (own_acc N)), .unset] [(.int (nar .byte (p2.toInt8.toInt32)))])) _
            refine XS.iloadN X22.here hx rfl (hb hby at_78) rfl ?_
            show Steps p.tables e below (T22.setTop (mkF m 79 #[.val (.int p1), .val (.int p2), .val (.int p3), .val (.int N), .val (.ref b11), .val (.int (0 : Int32)), .val (.int (own_acc N)), .unset] [(.int p2), (.int (nar .byte (p2.toInt8.toInt32)))])) _
            refine XS.i2b X22.here hx rfl (hb hby at_79) rfl ?_
            show Steps p.tables e below (T22.setTop (mkF m 80 #[.val (.int p1), .val (.int p2), .val (.int p3), .val (.int N), .val (.ref b11), .val (.int (0 : Int32)), .val (.int (own_acc N)), .unset] [(.int (p2.toInt8.toInt32)), (.int (nar .byte (p2.toInt8.toInt32)))])) _
            refine XS.icmpNo X22.here hx rfl (hb hby at_80) rfl (XT.ii_ne_f (own_nb _ : (nar .byte (p2.toInt8.toInt32)) = (p2.toInt8.toInt32))) ?_
            show Steps p.tables e below (T22.setTop (mkF m 83 #[.val (.int p1), .val (.int p2), .val (.int p3), .val (.int N), .val (.ref b11), .val (.int (0 : Int32)), .val (.int (own_acc N)), .unset] [])) _
            refine XS.iconst X22.here hx rfl (hb hby at_83) ?_
            show Steps p.tables e below (T22.setTop (mkF m 84 #[.val (.int p1), .val (.int p2), .val (.int p3), .val (.int N), .val (.ref b11), .val (.int (0 : Int32)), .val (.int (own_acc N)), .unset] [(.int (1 : Int32))])) _
            refine XS.goto X22.here hx rfl (pc0 := 84) (pc' := 88) rfl (hb hby at_84) (by decide) (by decide) ?_
            show Steps p.tables e below (T22.setTop (mkF m 88 #[.val (.int p1), .val (.int p2), .val (.int p3), .val (.int N), .val (.ref b11), .val (.int (0 : Int32)), .val (.int (own_acc N)), .unset] [(.int (1 : Int32))])) _
            refine XS.istore X22.here hx rfl (hb hby at_88) rfl (l' := #[.val (.int p1), .val (.int p2), .val (.int p3), .val (.int N), .val (.ref b11), .val (.int (0 : Int32)), .val (.int (own_acc N)), .val (.int (1 : Int32))]) rfl ?_
            show Steps p.tables e below (T22.setTop (mkF m 90 #[.val (.int p1), .val (.int p2), .val (.int p3), .val (.int N), .val (.ref b11), .val (.int (0 : Int32)), .val (.int (own_acc N)), .val (.int (1 : Int32))] [])) _
            refine XS.iload X22.here hx rfl (hb hby at_90) rfl ?_
            show Steps p.tables e below (T22.setTop (mkF m 92 #[.val (.int p1), .val (.int p2), .val (.int p3), .val (.int N), .val (.ref b11), .val (.int (0 : Int32)), .val (.int (own_acc N)), .val (.int (1 : Int32))] [(.int (own_acc N))])) _
            refine XS.iload X22.here hx rfl (hb hby at_92) rfl ?_
            show Steps p.tables e below (T22.setTop (mkF m 94 #[.val (.int p1), .val (.int p2), .val (.int p3), .val (.int N), .val (.ref b11), .val (.int (0 : Int32)), .val (.int (own_acc N)), .val (.int (1 : Int32))] [(.int (0 : Int32)), (.int (own_acc N))])) _
            refine XS.icmpNo X22.here hx rfl (hb hby at_94) rfl (XT.ii_ne_f (by unfold own_acc; rw [if_neg (own_nlt (by omega)), if_pos k127] : (own_acc N) = (0 : Int32))) ?_
            show Steps p.tables e below (T22.setTop (mkF m 97 #[.val (.int p1), .val (.int p2), .val (.int p3), .val (.int N), .val (.ref b11), .val (.int (0 : Int32)), .val (.int (own_acc N)), .val (.int (1 : Int32))] [])) _
            refine XS.iload X22.here hx rfl (hb hby at_97) rfl ?_
            show Steps p.tables e below (T22.setTop (mkF m 99 #[.val (.int p1), .val (.int p2), .val (.int p3), .val (.int N), .val (.ref b11), .val (.int (0 : Int32)), .val (.int (own_acc N)), .val (.int (1 : Int32))] [(.int (1 : Int32))])) _
            refine XS.ifNo X22.here hx rfl (hb hby at_99) rfl (XT.i0_eq_f (by decide : ¬ ((1 : Int32) = (0 : Int32)))) ?_
            show Steps p.tables e below (T22.setTop (mkF m 102 #[.val (.int p1), .val (.int p2), .val (.int p3), .val (.int N), .val (.ref b11), .val (.int (0 : Int32)), .val (.int (own_acc N)), .val (.int (1 : Int32))] [])) _
            refine XS.aload X22.here hx rfl (hb hby at_102) rfl rfl ?_
            show Steps p.tables e below (T22.setTop (mkF m 104 #[.val (.int p1), .val (.int p2), .val (.int p3), .val (.int N), .val (.ref b11), .val (.int (0 : Int32)), .val (.int (own_acc N)), .val (.int (1 : Int32))] [(.ref b11)])) _
            refine X22.arraylength hx (cell := clz) (by rw [e22]; exact Arz.1) (State.isArrayOf_alike hZ.alike Arz.2.1) (g := (mkF m 104 #[.val (.int p1), .val (.int p2), .val (.int p3), .val (.int N), .val (.ref b11), .val (.int (0 : Int32)), .val (.int (own_acc N)), .val (.int (1 : Int32))] [(.ref b11)])) rfl (rest := []) rfl (hb hby at_104) _ ?_
            rw [len_of Sz Mz]
            show Steps p.tables e below (T22.setTop (mkF m 105 #[.val (.int p1), .val (.int p2), .val (.int p3), .val (.int N), .val (.ref b11), .val (.int (0 : Int32)), .val (.int (own_acc N)), .val (.int (1 : Int32))] [(.int N)])) _
            refine XS.iloadN X22.here hx rfl (hb hby at_105) rfl ?_
            show Steps p.tables e below (T22.setTop (mkF m 106 #[.val (.int p1), .val (.int p2), .val (.int p3), .val (.int N), .val (.ref b11), .val (.int (0 : Int32)), .val (.int (own_acc N)), .val (.int (1 : Int32))] [(.int N), (.int N)])) _
            refine XS.icmpNo X22.here hx rfl (hb hby at_106) rfl (XT.ii_ne_f (rfl : N = N)) ?_
            show Steps p.tables e below (T22.setTop (mkF m 109 #[.val (.int p1), .val (.int p2), .val (.int p3), .val (.int N), .val (.ref b11), .val (.int (0 : Int32)), .val (.int (own_acc N)), .val (.int (1 : Int32))] [])) _
            refine XS.iconst X22.here hx rfl (hb hby at_109) ?_
            show Steps p.tables e below (T22.setTop (mkF m 110 #[.val (.int p1), .val (.int p2), .val (.int p3), .val (.int N), .val (.ref b11), .val (.int (0 : Int32)), .val (.int (own_acc N)), .val (.int (1 : Int32))] [(.int (1 : Int32))])) _
            refine XS.goto X22.here hx rfl (pc0 := 110) (pc' := 114) rfl (hb hby at_110) (by decide) (by decide) ?_
            show Steps p.tables e below (T22.setTop (mkF m 114 #[.val (.int p1), .val (.int p2), .val (.int p3), .val (.int N), .val (.ref b11), .val (.int (0 : Int32)), .val (.int (own_acc N)), .val (.int (1 : Int32))] [(.int (1 : Int32))])) _
            exact k)
        obtain ⟨fs, hr, hrun, hended, hW, hsame⟩ := X22.leave (v := some (.int (1 : Int32))) (fun h => by rw [Bd.returns] at h; cases h)
        refine ⟨_, _, q26 _ ?_, hrun, hended, _, _, rfl, ?_, ⟨_, rfl⟩, hW, hsame.mono (by decide) (by decide)⟩
        · show Steps p.tables e below (T22.setTop (mkF m 114 #[.val (.int p1), .val (.int p2), .val (.int p3), .val (.int N), .val (.ref b11), .val (.int (0 : Int32)), .val (.int (own_acc N)), .val (.int (1 : Int32))] [(.int (1 : Int32))])) _
          exact retN X22 hx (t := .boolean) Bd.returns (by simp) (hb hby at_114) hr
        · show QL n0 _ T22.heap _
          exact ⟨rfl, N22⟩
    · skip
      have q27 : ∀ t, Steps p.tables e below (T18.setTop (mkF m 49 #[.val (.int p1), .val (.int p2), .val (.int p3), .val (.int N), .val (.ref b11), .val (.int (1 : Int32)), .unset, .unset] [(.ref b11)])) t → Steps p.tables e below (s₁.setTop (entryFrame m #[(.int p1), (.int p2), (.int p3)] maxLocals)) t := fun t k => q20 t (by
          show Steps p.tables e below (T18.setTop (mkF m 37 #[.val (.int p1), .val (.int p2), .val (.int p3), .val (.int N), .val (.ref b11), .unset, .unset, .unset] [(.int (127 : Int32)), (.int N)])) _
          refine XS.icmpNo X18.here hx rfl (hb hby at_37) rfl (XT.ii_gt_f (k127 : ¬ ((127 : Int32) < N))) ?_
          show Steps p.tables e below (T18.setTop (mkF m 40 #[.val (.int p1), .val (.int p2), .val (.int p3), .val (.int N), .val (.ref b11), .unset, .unset, .unset] [])) _
          refine XS.iconst X18.here hx rfl (hb hby at_40) ?_
          show Steps p.tables e below (T18.setTop (mkF m 41 #[.val (.int p1), .val (.int p2), .val (.int p3), .val (.int N), .val (.ref b11), .unset, .unset, .unset] [(.int (1 : Int32))])) _
          refine XS.goto X18.here hx rfl (pc0 := 41) (pc' := 45) rfl (hb hby at_41) (by decide) (by decide) ?_
          show Steps p.tables e below (T18.setTop (mkF m 45 #[.val (.int p1), .val (.int p2), .val (.int p3), .val (.int N), .val (.ref b11), .unset, .unset, .unset] [(.int (1 : Int32))])) _
          refine XS.istore X18.here hx rfl (hb hby at_45) rfl (l' := #[.val (.int p1), .val (.int p2), .val (.int p3), .val (.int N), .val (.ref b11), .val (.int (1 : Int32)), .unset, .unset]) rfl ?_
          show Steps p.tables e below (T18.setTop (mkF m 47 #[.val (.int p1), .val (.int p2), .val (.int p3), .val (.int N), .val (.ref b11), .val (.int (1 : Int32)), .unset, .unset] [])) _
          refine XS.aload X18.here hx rfl (hb hby at_47) rfl rfl ?_
          show Steps p.tables e below (T18.setTop (mkF m 49 #[.val (.int p1), .val (.int p2), .val (.int p3), .val (.int N), .val (.ref b11), .val (.int (1 : Int32)), .unset, .unset] [(.ref b11)])) _
          exact k)
      obtain ⟨_, _, ⟨T28, L28, kk28, nn28⟩, -, X28, ⟨Lc28, hQ28, l28, y28, z28⟩, st28⟩ := Jvm.LawKit.callS X18 hx (y := (⟨"cardwright/core/Pin", "acceptable", "([B)Z"⟩ : MethodName)) hown (mvT hZ (hw _ (List.mem_of_getElem? (i := 1) rfl))) (mvT hZ (hw _ (List.mem_of_getElem? (i := 2) rfl))) (mvT hZ (hw _ (List.mem_of_getElem? (i := 3) rfl))) (mvT hZ (hw _ (List.mem_of_getElem? (i := 4) rfl))) (by decide) (backOf (W := 0) (rm1 l Z a0 hw [] b11 N (_) h18 n0 Z18 B2) hZ (hw _ (List.mem_of_getElem? (i := 4) rfl)) (hw _ (List.mem_of_getElem? (i := 3) rfl)) (by decide) (by decide)) (g := (mkF m 49 #[.val (.int p1), .val (.int p2), .val (.int p3), .val (.int N), .val (.ref b11), .val (.int (1 : Int32)), .unset, .unset] [(.ref b11)])) rfl (by rw [hml]; rfl) (argsL := [(.ref b11)]) (rest := []) (lenOf pd___B_Z rfl) rfl (by show 2 * 0 + _ ≤ _; exact Nat.le_of_eq rfl) (hb hby at_49) (fun _ _ => ⟨rfl, e18, (by decide : 1 + 0 ≤ _), (by decide : 255 + 0 ≤ _)⟩)
      dsimp only [Pt.U, Pt.locs, Pt.cells, Pt.slots] at X28 l28 y28 z28 st28 hQ28
      subst l28 y28 z28
      obtain ⟨rfl, Nq28, e28⟩ := hQ28
      have N28 := Fr.app N18 Nq28
      have q29 : ∀ t, Steps p.tables e below (T28.setTop (mkF m 52 #[.val (.int p1), .val (.int p2), .val (.int p3), .val (.int N), .val (.ref b11), .val (.int (1 : Int32)), .unset, .unset] [(.int (own_acc N))])) t → Steps p.tables e below (s₁.setTop (entryFrame m #[(.int p1), (.int p2), (.int p3)] maxLocals)) t := fun t k => q27 t (st28 t k)
      obtain ⟨cl2, Ar2, S2, M2, H2⟩ := id B2
      have hj2 : ¬ ((N - (1 : Int32)) < 0 ∨ cl2.slots.size ≤ (N - (1 : Int32)).toNatClampNeg) := inb_of S2 ⟨own_nlt (by omega), own_lt (by omega)⟩
      have ha2 : cl2.slots[(N - (1 : Int32)).toNatClampNeg]? = some (.int (nar .byte (p3.toInt8.toInt32))) := by rw [H2 _ (Nat.lt_of_not_le fun y => hj2 (Or.inr y))]; exact congrArg (fun z => some (Value.int z)) (if_pos rfl)
      have q30 : ∀ t, Steps p.tables e below (T28.setTop (mkF m 71 #[.val (.int p1), .val (.int p2), .val (.int p3), .val (.int N), .val (.ref b11), .val (.int (1 : Int32)), .val (.int (own_acc N)), .unset] [(.int (1 : Int32)), (.int N)])) t → Steps p.tables e below (s₁.setTop (entryFrame m #[(.int p1), (.int p2), (.int p3)] maxLocals)) t := fun t k => q29 t (by
          show Steps p.tables e below (T28.setTop (mkF m 52 #[.val (.int p1), .val (.int p2), .val (.int p3), .val (.int N), .val (.ref b11), .val (.int (1 : Int32)), .unset, .unset] [(.int (own_acc N))])) _
          refine XS.istore X28.here hx rfl (hb hby at_52) rfl (l' := #[.val (.int p1), .val (.int p2), .val (.int p3), .val (.int N), .val (.ref b11), .val (.int (1 : Int32)), .val (.int (own_acc N)), .unset]) rfl ?_
          show Steps p.tables e below (T28.setTop (mkF m 54 #[.val (.int p1), .val (.int p2), .val (.int p3), .val (.int N), .val (.ref b11), .val (.int (1 : Int32)), .val (.int (own_acc N)), .unset] [])) _
          refine XS.iloadN X28.here hx rfl (hb hby at_54) rfl ?_
          show Steps p.tables e below (T28.setTop (mkF m 55 #[.val (.int p1), .val (.int p2), .val (.int p3), .val (.int N), .val (.ref b11), .val (.int (1 : Int32)), .val (.int (own_acc N)), .unset] [(.int N)])) _
          refine XS.ifNo X28.here hx rfl (hb hby at_55) rfl (XT.i0_eq_f (own_ne (by omega) : ¬ (N = (0 : Int32)))) ?_
          show Steps p.tables e below (T28.setTop (mkF m 58 #[.val (.int p1), .val (.int p2), .val (.int p3), .val (.int N), .val (.ref b11), .val (.int (1 : Int32)), .val (.int (own_acc N)), .unset] [])) _
          refine XS.aload X28.here hx rfl (hb hby at_58) rfl rfl ?_
          show Steps p.tables e below (T28.setTop (mkF m 60 #[.val (.int p1), .val (.int p2), .val (.int p3), .val (.int N), .val (.ref b11), .val (.int (1 : Int32)), .val (.int (own_acc N)), .unset] [(.ref b11)])) _
          refine XS.iloadN X28.here hx rfl (hb hby at_60) rfl ?_
          show Steps p.tables e below (T28.setTop (mkF m 61 #[.val (.int p1), .val (.int p2), .val (.int p3), .val (.int N), .val (.ref b11), .val (.int (1 : Int32)), .val (.int (own_acc N)), .unset] [(.int N), (.ref b11)])) _
          refine XS.iconst X28.here hx rfl (hb hby at_61) ?_
          show Steps p.tables e below (T28.setTop (mkF m 62 #[.val (.int p1), .val (.int p2), .val (.int p3), .val (.int N), .val (.ref b11), .val (.int (1 : Int32)), .val (.int (own_acc N)), .unset] [(.int (1 : Int32)), (.int N), (.ref b11)])) _
          refine XS.isub X28.here hx rfl (hb hby at_62) rfl ?_
          show Steps p.tables e below (T28.setTop (mkF m 63 #[.val (.int p1), .val (.int p2), .val (.int p3), .val (.int N), .val (.ref b11), .val (.int (1 : Int32)), .val (.int (own_acc N)), .unset] [(.int (N - (1 : Int32))), (.ref b11)])) _
          refine X28.baloadBytes hx (j := (N - (1 : Int32))) (v := (.int (nar .byte (p3.toInt8.toInt32)))) (by rw [e28]; exact Ar2.1) (State.isArrayOf_alike hZ.alike Ar2.2.1) Ar2.2.2 (hj2) (ha2) (g := (mkF m 63 #[.val (.int p1), .val (.int p2), .val (.int p3), .val (.int N), .val (.ref b11), .val (.int (1 : Int32)), .val (.int (own_acc N)), .unset] [(.int (N - (1 : Int32))), (.ref b11)])) rfl rfl (hb hby at_63) _ ?_
          show Steps p.tables e below (T28.setTop (mkF m 64 #[.val (.int p1), .val (.int p2), .val (.int p3), .val (.int N), .val (.ref b11), .val (.int (1 : Int32)), .val (.int (own_acc N)), .unset] [(.int (nar .byte (p3.toInt8.toInt32)))])) _
          refine XS.iloadN X28.here hx rfl (hb hby at_64) rfl ?_
          show Steps p.tables e below (T28.setTop (mkF m 65 #[.val (.int p1), .val (.int p2), .val (.int p3), .val (.int N), .val (.ref b11), .val (.int (1 : Int32)), .val (.int (own_acc N)), .unset] [(.int p3), (.int (nar .byte (p3.toInt8.toInt32)))])) _
          refine XS.i2b X28.here hx rfl (hb hby at_65) rfl ?_
          show Steps p.tables e below (T28.setTop (mkF m 66 #[.val (.int p1), .val (.int p2), .val (.int p3), .val (.int N), .val (.ref b11), .val (.int (1 : Int32)), .val (.int (own_acc N)), .unset] [(.int (p3.toInt8.toInt32)), (.int (nar .byte (p3.toInt8.toInt32)))])) _
          refine XS.icmpNo X28.here hx rfl (hb hby at_66) rfl (XT.ii_ne_f (own_nb _ : (nar .byte (p3.toInt8.toInt32)) = (p3.toInt8.toInt32))) ?_
          show Steps p.tables e below (T28.setTop (mkF m 69 #[.val (.int p1), .val (.int p2), .val (.int p3), .val (.int N), .val (.ref b11), .val (.int (1 : Int32)), .val (.int (own_acc N)), .unset] [])) _
          refine XS.iloadN X28.here hx rfl (hb hby at_69) rfl ?_
          show Steps p.tables e below (T28.setTop (mkF m 70 #[.val (.int p1), .val (.int p2), .val (.int p3), .val (.int N), .val (.ref b11), .val (.int (1 : Int32)), .val (.int (own_acc N)), .unset] [(.int N)])) _
          refine XS.iconst X28.here hx rfl (hb hby at_70) ?_
          show Steps p.tables e below (T28.setTop (mkF m 71 #[.val (.int p1), .val (.int p2), .val (.int p3), .val (.int N), .val (.ref b11), .val (.int (1 : Int32)), .val (.int (own_acc N)), .unset] [(.int (1 : Int32)), (.int N)])) _
          exact k)
      by_cases kn : N = (1 : Int32)
      · skip
        obtain ⟨clz, Arz, Sz, Mz, Hz⟩ := B2
        have q31 : ∀ t, Steps p.tables e below (T28.setTop (mkF m 114 #[.val (.int p1), .val (.int p2), .val (.int p3), .val (.int N), .val (.ref b11), .val (.int (1 : Int32)), .val (.int (own_acc N)), .val (.int (1 : Int32))] [(.int (1 : Int32))])) t → Steps p.tables e below (s₁.setTop (entryFrame m #[(.int p1), (.int p2), (.int p3)] maxLocals)) t := fun t k => q30 t (by
            show Steps p.tables e below (T28.setTop (mkF m 71 #[.val (.int p1), .val (.int p2), .val (.int p3), .val (.int N), .val (.ref b11), .val (.int (1 : Int32)), .val (.int (own_acc N)), .unset] [(.int (1 : Int32)), (.int N)])) _
            refine XS.icmpYes X28.here hx rfl (pc0 := 71) (pc' := 83) rfl (hb hby at_71) rfl (XT.ii_eq_t (kn : N = (1 : Int32))) (by decide) (by decide) ?_
            show Steps p.tables e below (T28.setTop (mkF m 83 #[.val (.int p1), .val (.int p2), .val (.int p3), .val (.int N), .val (.ref b11), .val (.int (1 : Int32)), .val (.int (own_acc N)), .unset] [])) _
            refine XS.iconst X28.here hx rfl (hb hby at_83) ?_
            show Steps p.tables e below (T28.setTop (mkF m 84 #[.val (.int p1), .val (.int p2), .val (.int p3), .val (.int N), .val (.ref b11), .val (.int (1 : Int32)), .val (.int (own_acc N)), .unset] [(.int (1 : Int32))])) _
            refine XS.goto X28.here hx rfl (pc0 := 84) (pc' := 88) rfl (hb hby at_84) (by decide) (by decide) ?_
            show Steps p.tables e below (T28.setTop (mkF m 88 #[.val (.int p1), .val (.int p2), .val (.int p3), .val (.int N), .val (.ref b11), .val (.int (1 : Int32)), .val (.int (own_acc N)), .unset] [(.int (1 : Int32))])) _
            refine XS.istore X28.here hx rfl (hb hby at_88) rfl (l' := #[.val (.int p1), .val (.int p2), .val (.int p3), .val (.int N), .val (.ref b11), .val (.int (1 : Int32)), .val (.int (own_acc N)), .val (.int (1 : Int32))]) rfl ?_
            show Steps p.tables e below (T28.setTop (mkF m 90 #[.val (.int p1), .val (.int p2), .val (.int p3), .val (.int N), .val (.ref b11), .val (.int (1 : Int32)), .val (.int (own_acc N)), .val (.int (1 : Int32))] [])) _
            refine XS.iload X28.here hx rfl (hb hby at_90) rfl ?_
            show Steps p.tables e below (T28.setTop (mkF m 92 #[.val (.int p1), .val (.int p2), .val (.int p3), .val (.int N), .val (.ref b11), .val (.int (1 : Int32)), .val (.int (own_acc N)), .val (.int (1 : Int32))] [(.int (own_acc N))])) _
            refine XS.iload X28.here hx rfl (hb hby at_92) rfl ?_
            show Steps p.tables e below (T28.setTop (mkF m 94 #[.val (.int p1), .val (.int p2), .val (.int p3), .val (.int N), .val (.ref b11), .val (.int (1 : Int32)), .val (.int (own_acc N)), .val (.int (1 : Int32))] [(.int (1 : Int32)), (.int (own_acc N))])) _
            refine XS.icmpNo X28.here hx rfl (hb hby at_94) rfl (XT.ii_ne_f (by unfold own_acc; rw [if_neg (own_nlt (by omega)), if_neg k127] : (own_acc N) = (1 : Int32))) ?_
            show Steps p.tables e below (T28.setTop (mkF m 97 #[.val (.int p1), .val (.int p2), .val (.int p3), .val (.int N), .val (.ref b11), .val (.int (1 : Int32)), .val (.int (own_acc N)), .val (.int (1 : Int32))] [])) _
            refine XS.iload X28.here hx rfl (hb hby at_97) rfl ?_
            show Steps p.tables e below (T28.setTop (mkF m 99 #[.val (.int p1), .val (.int p2), .val (.int p3), .val (.int N), .val (.ref b11), .val (.int (1 : Int32)), .val (.int (own_acc N)), .val (.int (1 : Int32))] [(.int (1 : Int32))])) _
            refine XS.ifNo X28.here hx rfl (hb hby at_99) rfl (XT.i0_eq_f (by decide : ¬ ((1 : Int32) = (0 : Int32)))) ?_
            show Steps p.tables e below (T28.setTop (mkF m 102 #[.val (.int p1), .val (.int p2), .val (.int p3), .val (.int N), .val (.ref b11), .val (.int (1 : Int32)), .val (.int (own_acc N)), .val (.int (1 : Int32))] [])) _
            refine XS.aload X28.here hx rfl (hb hby at_102) rfl rfl ?_
            show Steps p.tables e below (T28.setTop (mkF m 104 #[.val (.int p1), .val (.int p2), .val (.int p3), .val (.int N), .val (.ref b11), .val (.int (1 : Int32)), .val (.int (own_acc N)), .val (.int (1 : Int32))] [(.ref b11)])) _
            refine X28.arraylength hx (cell := clz) (by rw [e28]; exact Arz.1) (State.isArrayOf_alike hZ.alike Arz.2.1) (g := (mkF m 104 #[.val (.int p1), .val (.int p2), .val (.int p3), .val (.int N), .val (.ref b11), .val (.int (1 : Int32)), .val (.int (own_acc N)), .val (.int (1 : Int32))] [(.ref b11)])) rfl (rest := []) rfl (hb hby at_104) _ ?_
            rw [len_of Sz Mz]
            show Steps p.tables e below (T28.setTop (mkF m 105 #[.val (.int p1), .val (.int p2), .val (.int p3), .val (.int N), .val (.ref b11), .val (.int (1 : Int32)), .val (.int (own_acc N)), .val (.int (1 : Int32))] [(.int N)])) _
            refine XS.iloadN X28.here hx rfl (hb hby at_105) rfl ?_
            show Steps p.tables e below (T28.setTop (mkF m 106 #[.val (.int p1), .val (.int p2), .val (.int p3), .val (.int N), .val (.ref b11), .val (.int (1 : Int32)), .val (.int (own_acc N)), .val (.int (1 : Int32))] [(.int N), (.int N)])) _
            refine XS.icmpNo X28.here hx rfl (hb hby at_106) rfl (XT.ii_ne_f (rfl : N = N)) ?_
            show Steps p.tables e below (T28.setTop (mkF m 109 #[.val (.int p1), .val (.int p2), .val (.int p3), .val (.int N), .val (.ref b11), .val (.int (1 : Int32)), .val (.int (own_acc N)), .val (.int (1 : Int32))] [])) _
            refine XS.iconst X28.here hx rfl (hb hby at_109) ?_
            show Steps p.tables e below (T28.setTop (mkF m 110 #[.val (.int p1), .val (.int p2), .val (.int p3), .val (.int N), .val (.ref b11), .val (.int (1 : Int32)), .val (.int (own_acc N)), .val (.int (1 : Int32))] [(.int (1 : Int32))])) _
            refine XS.goto X28.here hx rfl (pc0 := 110) (pc' := 114) rfl (hb hby at_110) (by decide) (by decide) ?_
            show Steps p.tables e below (T28.setTop (mkF m 114 #[.val (.int p1), .val (.int p2), .val (.int p3), .val (.int N), .val (.ref b11), .val (.int (1 : Int32)), .val (.int (own_acc N)), .val (.int (1 : Int32))] [(.int (1 : Int32))])) _
            exact k)
        obtain ⟨fs, hr, hrun, hended, hW, hsame⟩ := X28.leave (v := some (.int (1 : Int32))) (fun h => by rw [Bd.returns] at h; cases h)
        refine ⟨_, _, q31 _ ?_, hrun, hended, _, _, rfl, ?_, ⟨_, rfl⟩, hW, hsame.mono (by decide) (by decide)⟩
        · show Steps p.tables e below (T28.setTop (mkF m 114 #[.val (.int p1), .val (.int p2), .val (.int p3), .val (.int N), .val (.ref b11), .val (.int (1 : Int32)), .val (.int (own_acc N)), .val (.int (1 : Int32))] [(.int (1 : Int32))])) _
          exact retN X28 hx (t := .boolean) Bd.returns (by simp) (hb hby at_114) hr
        · show QL n0 _ T28.heap _
          exact ⟨rfl, N28⟩
      · skip
        have kn' : ¬ N.toInt = 1 := fun y => kn (own_eq (y.trans lit_1.symm))
        have hz2 : ¬ ((0 : Int32) < 0 ∨ cl2.slots.size ≤ (0 : Int32).toNatClampNeg) := inb_of S2 ⟨by decide, kp⟩
        have hc2 : ¬ (0 : Int32).toNatClampNeg = (N - (1 : Int32)).toNatClampNeg := by simp only [Int32.toNatClampNeg]; omega
        have hz3 : cl2.slots[(0 : Int32).toNatClampNeg]? = some (.int (nar .byte (p2.toInt8.toInt32))) := by rw [H2 _ (Nat.lt_of_not_le fun y => hz2 (Or.inr y))]; exact congrArg (fun z => some (Value.int z)) ((if_neg hc2).trans (if_pos rfl))
        obtain ⟨clz, Arz, Sz, Mz, Hz⟩ := B2
        have q32 : ∀ t, Steps p.tables e below (T28.setTop (mkF m 114 #[.val (.int p1), .val (.int p2), .val (.int p3), .val (.int N), .val (.ref b11), .val (.int (1 : Int32)), .val (.int (own_acc N)), .val (.int (1 : Int32))] [(.int (1 : Int32))])) t → Steps p.tables e below (s₁.setTop (entryFrame m #[(.int p1), (.int p2), (.int p3)] maxLocals)) t := fun t k => q30 t (by
            show Steps p.tables e below (T28.setTop (mkF m 71 #[.val (.int p1), .val (.int p2), .val (.int p3), .val (.int N), .val (.ref b11), .val (.int (1 : Int32)), .val (.int (own_acc N)), .unset] [(.int (1 : Int32)), (.int N)])) _
            refine XS.icmpNo X28.here hx rfl (hb hby at_71) rfl (XT.ii_eq_f (kn : ¬ (N = (1 : Int32)))) ?_
            show Steps p.tables e below (T28.setTop (mkF m 74 #[.val (.int p1), .val (.int p2), .val (.int p3), .val (.int N), .val (.ref b11), .val (.int (1 : Int32)), .val (.int (own_acc N)), .unset] [])) _
            refine XS.aload X28.here hx rfl (hb hby at_74) rfl rfl ?_
            show Steps p.tables e below (T28.setTop (mkF m 76 #[.val (.int p1), .val (.int p2), .val (.int p3), .val (.int N), .val (.ref b11), .val (.int (1 : Int32)), .val (.int (own_acc N)), .unset] [(.ref b11)])) _
            refine XS.iconst X28.here hx rfl (hb hby at_76) ?_
            show Steps p.tables e below (T28.setTop (mkF m 77 #[.val (.int p1), .val (.int p2), .val (.int p3), .val (.int N), .val (.ref b11), .val (.int (1 : Int32)), .val (.int (own_acc N)), .unset] [(.int (0 : Int32)), (.ref b11)])) _
            refine X28.baloadBytes hx (j := (0 : Int32)) (v := (.int (nar .byte (p2.toInt8.toInt32)))) (by rw [e28]; exact Ar2.1) (State.isArrayOf_alike hZ.alike Ar2.2.1) Ar2.2.2 (hz2) (hz3) (g := (mkF m 77 #[.val (.int p1), .val (.int p2), .val (.int p3), .val (.int N), .val (.ref b11), .val (.int (1 : Int32)), .val (.int (own_acc N)), .unset] [(.int (0 : Int32)), (.ref b11)])) rfl rfl (hb hby at_77) _ ?_
            show Steps p.tables e below (T28.setTop (mkF m 78 #[.val (.int p1), .val (.int p2), .val (.int p3), .val (.int N), .val (.ref b11), .val (.int (1 : Int32)), .val (.int (own_acc N)), .unset] [(.int (nar .byte (p2.toInt8.toInt32)))])) _
            refine XS.iloadN X28.here hx rfl (hb hby at_78) rfl ?_
            show Steps p.tables e below (T28.setTop (mkF m 79 #[.val (.int p1), .val (.int p2), .val (.int p3), .val (.int N), .val (.ref b11), .val (.int (1 : Int32)), .val (.int (own_acc N)), .unset] [(.int p2), (.int (nar .byte (p2.toInt8.toInt32)))])) _
            refine XS.i2b X28.here hx rfl (hb hby at_79) rfl ?_
            show Steps p.tables e below (T28.setTop (mkF m 80 #[.val (.int p1), .val (.int p2), .val (.int p3), .val (.int N), .val (.ref b11), .val (.int (1 : Int32)), .val (.int (own_acc N)), .unset] [(.int (p2.toInt8.toInt32)), (.int (nar .byte (p2.toInt8.toInt32)))])) _
            refine XS.icmpNo X28.here hx rfl (hb hby at_80) rfl (XT.ii_ne_f (own_nb _ : (nar .byte (p2.toInt8.toInt32)) = (p2.toInt8.toInt32))) ?_
            show Steps p.tables e below (T28.setTop (mkF m 83 #[.val (.int p1), .val (.int p2), .val (.int p3), .val (.int N), .val (.ref b11), .val (.int (1 : Int32)), .val (.int (own_acc N)), .unset] [])) _
            refine XS.iconst X28.here hx rfl (hb hby at_83) ?_
            show Steps p.tables e below (T28.setTop (mkF m 84 #[.val (.int p1), .val (.int p2), .val (.int p3), .val (.int N), .val (.ref b11), .val (.int (1 : Int32)), .val (.int (own_acc N)), .unset] [(.int (1 : Int32))])) _
            refine XS.goto X28.here hx rfl (pc0 := 84) (pc' := 88) rfl (hb hby at_84) (by decide) (by decide) ?_
            show Steps p.tables e below (T28.setTop (mkF m 88 #[.val (.int p1), .val (.int p2), .val (.int p3), .val (.int N), .val (.ref b11), .val (.int (1 : Int32)), .val (.int (own_acc N)), .unset] [(.int (1 : Int32))])) _
            refine XS.istore X28.here hx rfl (hb hby at_88) rfl (l' := #[.val (.int p1), .val (.int p2), .val (.int p3), .val (.int N), .val (.ref b11), .val (.int (1 : Int32)), .val (.int (own_acc N)), .val (.int (1 : Int32))]) rfl ?_
            show Steps p.tables e below (T28.setTop (mkF m 90 #[.val (.int p1), .val (.int p2), .val (.int p3), .val (.int N), .val (.ref b11), .val (.int (1 : Int32)), .val (.int (own_acc N)), .val (.int (1 : Int32))] [])) _
            refine XS.iload X28.here hx rfl (hb hby at_90) rfl ?_
            show Steps p.tables e below (T28.setTop (mkF m 92 #[.val (.int p1), .val (.int p2), .val (.int p3), .val (.int N), .val (.ref b11), .val (.int (1 : Int32)), .val (.int (own_acc N)), .val (.int (1 : Int32))] [(.int (own_acc N))])) _
            refine XS.iload X28.here hx rfl (hb hby at_92) rfl ?_
            show Steps p.tables e below (T28.setTop (mkF m 94 #[.val (.int p1), .val (.int p2), .val (.int p3), .val (.int N), .val (.ref b11), .val (.int (1 : Int32)), .val (.int (own_acc N)), .val (.int (1 : Int32))] [(.int (1 : Int32)), (.int (own_acc N))])) _
            refine XS.icmpNo X28.here hx rfl (hb hby at_94) rfl (XT.ii_ne_f (by unfold own_acc; rw [if_neg (own_nlt (by omega)), if_neg k127] : (own_acc N) = (1 : Int32))) ?_
            show Steps p.tables e below (T28.setTop (mkF m 97 #[.val (.int p1), .val (.int p2), .val (.int p3), .val (.int N), .val (.ref b11), .val (.int (1 : Int32)), .val (.int (own_acc N)), .val (.int (1 : Int32))] [])) _
            refine XS.iload X28.here hx rfl (hb hby at_97) rfl ?_
            show Steps p.tables e below (T28.setTop (mkF m 99 #[.val (.int p1), .val (.int p2), .val (.int p3), .val (.int N), .val (.ref b11), .val (.int (1 : Int32)), .val (.int (own_acc N)), .val (.int (1 : Int32))] [(.int (1 : Int32))])) _
            refine XS.ifNo X28.here hx rfl (hb hby at_99) rfl (XT.i0_eq_f (by decide : ¬ ((1 : Int32) = (0 : Int32)))) ?_
            show Steps p.tables e below (T28.setTop (mkF m 102 #[.val (.int p1), .val (.int p2), .val (.int p3), .val (.int N), .val (.ref b11), .val (.int (1 : Int32)), .val (.int (own_acc N)), .val (.int (1 : Int32))] [])) _
            refine XS.aload X28.here hx rfl (hb hby at_102) rfl rfl ?_
            show Steps p.tables e below (T28.setTop (mkF m 104 #[.val (.int p1), .val (.int p2), .val (.int p3), .val (.int N), .val (.ref b11), .val (.int (1 : Int32)), .val (.int (own_acc N)), .val (.int (1 : Int32))] [(.ref b11)])) _
            refine X28.arraylength hx (cell := clz) (by rw [e28]; exact Arz.1) (State.isArrayOf_alike hZ.alike Arz.2.1) (g := (mkF m 104 #[.val (.int p1), .val (.int p2), .val (.int p3), .val (.int N), .val (.ref b11), .val (.int (1 : Int32)), .val (.int (own_acc N)), .val (.int (1 : Int32))] [(.ref b11)])) rfl (rest := []) rfl (hb hby at_104) _ ?_
            rw [len_of Sz Mz]
            show Steps p.tables e below (T28.setTop (mkF m 105 #[.val (.int p1), .val (.int p2), .val (.int p3), .val (.int N), .val (.ref b11), .val (.int (1 : Int32)), .val (.int (own_acc N)), .val (.int (1 : Int32))] [(.int N)])) _
            refine XS.iloadN X28.here hx rfl (hb hby at_105) rfl ?_
            show Steps p.tables e below (T28.setTop (mkF m 106 #[.val (.int p1), .val (.int p2), .val (.int p3), .val (.int N), .val (.ref b11), .val (.int (1 : Int32)), .val (.int (own_acc N)), .val (.int (1 : Int32))] [(.int N), (.int N)])) _
            refine XS.icmpNo X28.here hx rfl (hb hby at_106) rfl (XT.ii_ne_f (rfl : N = N)) ?_
            show Steps p.tables e below (T28.setTop (mkF m 109 #[.val (.int p1), .val (.int p2), .val (.int p3), .val (.int N), .val (.ref b11), .val (.int (1 : Int32)), .val (.int (own_acc N)), .val (.int (1 : Int32))] [])) _
            refine XS.iconst X28.here hx rfl (hb hby at_109) ?_
            show Steps p.tables e below (T28.setTop (mkF m 110 #[.val (.int p1), .val (.int p2), .val (.int p3), .val (.int N), .val (.ref b11), .val (.int (1 : Int32)), .val (.int (own_acc N)), .val (.int (1 : Int32))] [(.int (1 : Int32))])) _
            refine XS.goto X28.here hx rfl (pc0 := 110) (pc' := 114) rfl (hb hby at_110) (by decide) (by decide) ?_
            show Steps p.tables e below (T28.setTop (mkF m 114 #[.val (.int p1), .val (.int p2), .val (.int p3), .val (.int N), .val (.ref b11), .val (.int (1 : Int32)), .val (.int (own_acc N)), .val (.int (1 : Int32))] [(.int (1 : Int32))])) _
            exact k)
        obtain ⟨fs, hr, hrun, hended, hW, hsame⟩ := X28.leave (v := some (.int (1 : Int32))) (fun h => by rw [Bd.returns] at h; cases h)
        refine ⟨_, _, q32 _ ?_, hrun, hended, _, _, rfl, ?_, ⟨_, rfl⟩, hW, hsame.mono (by decide) (by decide)⟩
        · show Steps p.tables e below (T28.setTop (mkF m 114 #[.val (.int p1), .val (.int p2), .val (.int p3), .val (.int N), .val (.ref b11), .val (.int (1 : Int32)), .val (.int (own_acc N)), .val (.int (1 : Int32))] [(.int (1 : Int32))])) _
          exact retN X28 hx (t := .boolean) Bd.returns (by simp) (hb hby at_114) hr
        · show QL n0 _ T28.heap _
          exact ⟨rfl, N28⟩
  · skip
    have kz : N.toInt = 0 := by have q : ¬ (0 : Int) < N.toInt := fun y => kp (Int32.lt_iff_toInt_lt.mpr (lit_0.symm ▸ y)); omega
    have q33 : ∀ t, Steps p.tables e below (T11.setTop (mkF m 49 #[.val (.int p1), .val (.int p2), .val (.int p3), .val (.int N), .val (.ref b11), .val (.int (0 : Int32)), .unset, .unset] [(.ref b11)])) t → Steps p.tables e below (s₁.setTop (entryFrame m #[(.int p1), (.int p2), (.int p3)] maxLocals)) t := fun t k => q13 t (by
        show Steps p.tables e below (T11.setTop (mkF m 12 #[.val (.int p1), .val (.int p2), .val (.int p3), .val (.int N), .val (.ref b11), .unset, .unset, .unset] [(.int N)])) _
        refine XS.ifYes X11.here hx rfl (pc0 := 12) (pc' := 29) rfl (hb hby at_12) rfl (XT.i0_le_t (kp : ¬ ((0 : Int32) < N))) (by decide) (by decide) ?_
        show Steps p.tables e below (T11.setTop (mkF m 29 #[.val (.int p1), .val (.int p2), .val (.int p3), .val (.int N), .val (.ref b11), .unset, .unset, .unset] [])) _
        refine XS.iloadN X11.here hx rfl (hb hby at_29) rfl ?_
        show Steps p.tables e below (T11.setTop (mkF m 30 #[.val (.int p1), .val (.int p2), .val (.int p3), .val (.int N), .val (.ref b11), .unset, .unset, .unset] [(.int N)])) _
        refine XS.iconst X11.here hx rfl (hb hby at_30) ?_
        show Steps p.tables e below (T11.setTop (mkF m 31 #[.val (.int p1), .val (.int p2), .val (.int p3), .val (.int N), .val (.ref b11), .unset, .unset, .unset] [(.int (1 : Int32)), (.int N)])) _
        refine XS.icmpYes X11.here hx rfl (pc0 := 31) (pc' := 44) rfl (hb hby at_31) rfl (XT.ii_lt_t (own_lt (by omega) : N < (1 : Int32))) (by decide) (by decide) ?_
        show Steps p.tables e below (T11.setTop (mkF m 44 #[.val (.int p1), .val (.int p2), .val (.int p3), .val (.int N), .val (.ref b11), .unset, .unset, .unset] [])) _
        refine XS.iconst X11.here hx rfl (hb hby at_44) ?_
        show Steps p.tables e below (T11.setTop (mkF m 45 #[.val (.int p1), .val (.int p2), .val (.int p3), .val (.int N), .val (.ref b11), .unset, .unset, .unset] [(.int (0 : Int32))])) _
        refine XS.istore X11.here hx rfl (hb hby at_45) rfl (l' := #[.val (.int p1), .val (.int p2), .val (.int p3), .val (.int N), .val (.ref b11), .val (.int (0 : Int32)), .unset, .unset]) rfl ?_
        show Steps p.tables e below (T11.setTop (mkF m 47 #[.val (.int p1), .val (.int p2), .val (.int p3), .val (.int N), .val (.ref b11), .val (.int (0 : Int32)), .unset, .unset] [])) _
        refine XS.aload X11.here hx rfl (hb hby at_47) rfl rfl ?_
        show Steps p.tables e below (T11.setTop (mkF m 49 #[.val (.int p1), .val (.int p2), .val (.int p3), .val (.int N), .val (.ref b11), .val (.int (0 : Int32)), .unset, .unset] [(.ref b11)])) _
        exact k)
    obtain ⟨_, _, ⟨T34, L34, kk34, nn34⟩, -, X34, ⟨Lc34, hQ34, l34, y34, z34⟩, st34⟩ := Jvm.LawKit.callS X11 hx (y := (⟨"cardwright/core/Pin", "acceptable", "([B)Z"⟩ : MethodName)) hown (mvT hZ (hw _ (List.mem_of_getElem? (i := 1) rfl))) (mvT hZ (hw _ (List.mem_of_getElem? (i := 2) rfl))) (mvT hZ (hw _ (List.mem_of_getElem? (i := 3) rfl))) (mvT hZ (hw _ (List.mem_of_getElem? (i := 4) rfl))) (by decide) (backOf (W := 0) (rm1 l Z a0 hw [] b11 N (_) h11 n0 Z11 B0) hZ (hw _ (List.mem_of_getElem? (i := 4) rfl)) (hw _ (List.mem_of_getElem? (i := 3) rfl)) (by decide) (by decide)) (g := (mkF m 49 #[.val (.int p1), .val (.int p2), .val (.int p3), .val (.int N), .val (.ref b11), .val (.int (0 : Int32)), .unset, .unset] [(.ref b11)])) rfl (by rw [hml]; rfl) (argsL := [(.ref b11)]) (rest := []) (lenOf pd___B_Z rfl) rfl (by show 2 * 0 + _ ≤ _; exact Nat.le_of_eq rfl) (hb hby at_49) (fun _ _ => ⟨rfl, e11, (by decide : 1 + 0 ≤ _), (by decide : 255 + 0 ≤ _)⟩)
    dsimp only [Pt.U, Pt.locs, Pt.cells, Pt.slots] at X34 l34 y34 z34 st34 hQ34
    subst l34 y34 z34
    obtain ⟨rfl, Nq34, e34⟩ := hQ34
    have N34 := Fr.app N0 Nq34
    have q35 : ∀ t, Steps p.tables e below (T34.setTop (mkF m 52 #[.val (.int p1), .val (.int p2), .val (.int p3), .val (.int N), .val (.ref b11), .val (.int (0 : Int32)), .unset, .unset] [(.int (own_acc N))])) t → Steps p.tables e below (s₁.setTop (entryFrame m #[(.int p1), (.int p2), (.int p3)] maxLocals)) t := fun t k => q33 t (st34 t k)
    obtain ⟨clz, Arz, Sz, Mz, Hz⟩ := B0
    have q36 : ∀ t, Steps p.tables e below (T34.setTop (mkF m 114 #[.val (.int p1), .val (.int p2), .val (.int p3), .val (.int N), .val (.ref b11), .val (.int (0 : Int32)), .val (.int (own_acc N)), .val (.int (1 : Int32))] [(.int (1 : Int32))])) t → Steps p.tables e below (s₁.setTop (entryFrame m #[(.int p1), (.int p2), (.int p3)] maxLocals)) t := fun t k => q35 t (by
        show Steps p.tables e below (T34.setTop (mkF m 52 #[.val (.int p1), .val (.int p2), .val (.int p3), .val (.int N), .val (.ref b11), .val (.int (0 : Int32)), .unset, .unset] [(.int (own_acc N))])) _
        refine XS.istore X34.here hx rfl (hb hby at_52) rfl (l' := #[.val (.int p1), .val (.int p2), .val (.int p3), .val (.int N), .val (.ref b11), .val (.int (0 : Int32)), .val (.int (own_acc N)), .unset]) rfl ?_
        show Steps p.tables e below (T34.setTop (mkF m 54 #[.val (.int p1), .val (.int p2), .val (.int p3), .val (.int N), .val (.ref b11), .val (.int (0 : Int32)), .val (.int (own_acc N)), .unset] [])) _
        refine XS.iloadN X34.here hx rfl (hb hby at_54) rfl ?_
        show Steps p.tables e below (T34.setTop (mkF m 55 #[.val (.int p1), .val (.int p2), .val (.int p3), .val (.int N), .val (.ref b11), .val (.int (0 : Int32)), .val (.int (own_acc N)), .unset] [(.int N)])) _
        refine XS.ifYes X34.here hx rfl (pc0 := 55) (pc' := 83) rfl (hb hby at_55) rfl (XT.i0_eq_t (own_eq (by omega) : N = (0 : Int32))) (by decide) (by decide) ?_
        show Steps p.tables e below (T34.setTop (mkF m 83 #[.val (.int p1), .val (.int p2), .val (.int p3), .val (.int N), .val (.ref b11), .val (.int (0 : Int32)), .val (.int (own_acc N)), .unset] [])) _
        refine XS.iconst X34.here hx rfl (hb hby at_83) ?_
        show Steps p.tables e below (T34.setTop (mkF m 84 #[.val (.int p1), .val (.int p2), .val (.int p3), .val (.int N), .val (.ref b11), .val (.int (0 : Int32)), .val (.int (own_acc N)), .unset] [(.int (1 : Int32))])) _
        refine XS.goto X34.here hx rfl (pc0 := 84) (pc' := 88) rfl (hb hby at_84) (by decide) (by decide) ?_
        show Steps p.tables e below (T34.setTop (mkF m 88 #[.val (.int p1), .val (.int p2), .val (.int p3), .val (.int N), .val (.ref b11), .val (.int (0 : Int32)), .val (.int (own_acc N)), .unset] [(.int (1 : Int32))])) _
        refine XS.istore X34.here hx rfl (hb hby at_88) rfl (l' := #[.val (.int p1), .val (.int p2), .val (.int p3), .val (.int N), .val (.ref b11), .val (.int (0 : Int32)), .val (.int (own_acc N)), .val (.int (1 : Int32))]) rfl ?_
        show Steps p.tables e below (T34.setTop (mkF m 90 #[.val (.int p1), .val (.int p2), .val (.int p3), .val (.int N), .val (.ref b11), .val (.int (0 : Int32)), .val (.int (own_acc N)), .val (.int (1 : Int32))] [])) _
        refine XS.iload X34.here hx rfl (hb hby at_90) rfl ?_
        show Steps p.tables e below (T34.setTop (mkF m 92 #[.val (.int p1), .val (.int p2), .val (.int p3), .val (.int N), .val (.ref b11), .val (.int (0 : Int32)), .val (.int (own_acc N)), .val (.int (1 : Int32))] [(.int (own_acc N))])) _
        refine XS.iload X34.here hx rfl (hb hby at_92) rfl ?_
        show Steps p.tables e below (T34.setTop (mkF m 94 #[.val (.int p1), .val (.int p2), .val (.int p3), .val (.int N), .val (.ref b11), .val (.int (0 : Int32)), .val (.int (own_acc N)), .val (.int (1 : Int32))] [(.int (0 : Int32)), (.int (own_acc N))])) _
        refine XS.icmpNo X34.here hx rfl (hb hby at_94) rfl (XT.ii_ne_f (by unfold own_acc; rw [if_pos (own_lt (by omega))] : (own_acc N) = (0 : Int32))) ?_
        show Steps p.tables e below (T34.setTop (mkF m 97 #[.val (.int p1), .val (.int p2), .val (.int p3), .val (.int N), .val (.ref b11), .val (.int (0 : Int32)), .val (.int (own_acc N)), .val (.int (1 : Int32))] [])) _
        refine XS.iload X34.here hx rfl (hb hby at_97) rfl ?_
        show Steps p.tables e below (T34.setTop (mkF m 99 #[.val (.int p1), .val (.int p2), .val (.int p3), .val (.int N), .val (.ref b11), .val (.int (0 : Int32)), .val (.int (own_acc N)), .val (.int (1 : Int32))] [(.int (1 : Int32))])) _
        refine XS.ifNo X34.here hx rfl (hb hby at_99) rfl (XT.i0_eq_f (by decide : ¬ ((1 : Int32) = (0 : Int32)))) ?_
        show Steps p.tables e below (T34.setTop (mkF m 102 #[.val (.int p1), .val (.int p2), .val (.int p3), .val (.int N), .val (.ref b11), .val (.int (0 : Int32)), .val (.int (own_acc N)), .val (.int (1 : Int32))] [])) _
        refine XS.aload X34.here hx rfl (hb hby at_102) rfl rfl ?_
        show Steps p.tables e below (T34.setTop (mkF m 104 #[.val (.int p1), .val (.int p2), .val (.int p3), .val (.int N), .val (.ref b11), .val (.int (0 : Int32)), .val (.int (own_acc N)), .val (.int (1 : Int32))] [(.ref b11)])) _
        refine X34.arraylength hx (cell := clz) (by rw [e34]; exact Arz.1) (State.isArrayOf_alike hZ.alike Arz.2.1) (g := (mkF m 104 #[.val (.int p1), .val (.int p2), .val (.int p3), .val (.int N), .val (.ref b11), .val (.int (0 : Int32)), .val (.int (own_acc N)), .val (.int (1 : Int32))] [(.ref b11)])) rfl (rest := []) rfl (hb hby at_104) _ ?_
        rw [len_of Sz Mz]
        show Steps p.tables e below (T34.setTop (mkF m 105 #[.val (.int p1), .val (.int p2), .val (.int p3), .val (.int N), .val (.ref b11), .val (.int (0 : Int32)), .val (.int (own_acc N)), .val (.int (1 : Int32))] [(.int N)])) _
        refine XS.iloadN X34.here hx rfl (hb hby at_105) rfl ?_
        show Steps p.tables e below (T34.setTop (mkF m 106 #[.val (.int p1), .val (.int p2), .val (.int p3), .val (.int N), .val (.ref b11), .val (.int (0 : Int32)), .val (.int (own_acc N)), .val (.int (1 : Int32))] [(.int N), (.int N)])) _
        refine XS.icmpNo X34.here hx rfl (hb hby at_106) rfl (XT.ii_ne_f (rfl : N = N)) ?_
        show Steps p.tables e below (T34.setTop (mkF m 109 #[.val (.int p1), .val (.int p2), .val (.int p3), .val (.int N), .val (.ref b11), .val (.int (0 : Int32)), .val (.int (own_acc N)), .val (.int (1 : Int32))] [])) _
        refine XS.iconst X34.here hx rfl (hb hby at_109) ?_
        show Steps p.tables e below (T34.setTop (mkF m 110 #[.val (.int p1), .val (.int p2), .val (.int p3), .val (.int N), .val (.ref b11), .val (.int (0 : Int32)), .val (.int (own_acc N)), .val (.int (1 : Int32))] [(.int (1 : Int32))])) _
        refine XS.goto X34.here hx rfl (pc0 := 110) (pc' := 114) rfl (hb hby at_110) (by decide) (by decide) ?_
        show Steps p.tables e below (T34.setTop (mkF m 114 #[.val (.int p1), .val (.int p2), .val (.int p3), .val (.int N), .val (.ref b11), .val (.int (0 : Int32)), .val (.int (own_acc N)), .val (.int (1 : Int32))] [(.int (1 : Int32))])) _
        exact k)
    obtain ⟨fs, hr, hrun, hended, hW, hsame⟩ := X34.leave (v := some (.int (1 : Int32))) (fun h => by rw [Bd.returns] at h; cases h)
    refine ⟨_, _, q36 _ ?_, hrun, hended, _, _, rfl, ?_, ⟨_, rfl⟩, hW, hsame.mono (by decide) (by decide)⟩
    · show Steps p.tables e below (T34.setTop (mkF m 114 #[.val (.int p1), .val (.int p2), .val (.int p3), .val (.int N), .val (.ref b11), .val (.int (0 : Int32)), .val (.int (own_acc N)), .val (.int (1 : Int32))] [(.int (1 : Int32))])) _
      exact retN X34 hx (t := .boolean) Bd.returns (by simp) (hb hby at_114) hr
    · show QL n0 _ T34.heap _
      exact ⟨rfl, N34⟩
set_option maxRecDepth 65536 in
set_option maxHeartbeats 40000000 in
theorem comes_1 {Post : Tables → Env → Array Value → State → Outcome → State → Prop} (hpost : ∀ tb e args s v u, (limb_1_1.after args s (.returned v) u = true ∧ limb_1_2.after args s (.returned v) u = true ∧ True) → FrameEnd s (.returned v) u (Jvm.fieldLocs frame_1_writes args s ++ Jvm.arrayLocs frame_1_arrays args s ++ Jvm.staticLocs frame_1_statics s) 16 576 → Post tb e args s (.returned v) u) :
    ArmFor flags0 classFile x code maxLocals ret World_1 tables_1 room_1 Calls_1 rest_1 Pre_1 Post := by
  intro l hfl _ _ p e ha hc hk s m args below hf hA hF happ hP
  obtain ⟨hcalls, hrest, hpre⟩ := hP
  obtain ⟨-, -, -, hnamed, -, -, -, hat⟩ := (Spec.applies_iff hf).mp happ
  obtain ⟨hg, hn⟩ := and_e (Cond.before_iff.mp (show (Jvm.Cond.and given_1 narrow_1).before args s = true from hpre))
  obtain ⟨gc, r0⟩ := and_e hg
  obtain ⟨g0, r1⟩ := and_e r0
  obtain ⟨g1, r2⟩ := and_e r1
  obtain ⟨w0, w1, w2, rfl⟩ : ∃ w0 w1 w2 : Value, args = #[w0, w1, w2] := by
    have hs : args.size = 3 := by simpa [Cond.value, given_1] using gc
    obtain ⟨L⟩ := args
    match L, hs with
    | [w0, w1, w2], _ => exact ⟨w0, w1, w2, rfl⟩
  have hw := fun d (hd : d ∈ tables_1) => atoms_spec (ws := Jvm.Cond.code x code maxLocals ret :: tables_1) hat d (List.mem_cons_of_mem _ hd)
  obtain ⟨i0, ei0⟩ := is_v g0
  obtain rfl : w0 = (.int i0) := Option.some.inj ei0
  obtain ⟨i1, ei1⟩ := is_v g1
  obtain rfl : w1 = (.int i1) := Option.some.inj ei1
  obtain ⟨i2, ei2⟩ := is_v r2
  obtain rfl : w2 = (.int i2) := Option.some.inj ei2
  obtain ⟨n, o, h1, h2, h3, _, L, rfl, ⟨rfl, N⟩, hq⟩ := rm0 l s _ hw tables_1 i0 i1 i2 s.heap s.heap.size (Nat.le_refl _) p e ha hc hk s m _ below hf ((Spec.applies_iff_loose hf).mp happ).1 ⟨rfl, State.Warmed39.refl s, rfl⟩ trivial
  refine ⟨n, _, h1, h2, h3, hpost _ _ _ _ _ _ ⟨Cond.after_iff.mpr rfl, Cond.after_iff.mpr (eq_i res_at (Term.int_eval (1)) rfl), trivial⟩ ⟨hq.1, hq.2.1, (hq.2.2.sift fun y hy => Or.inr (N y hy)).mono (by decide) (by decide)⟩⟩
theorem main_1_1 : Claimed_1_1 := comes_1 fun _ _ _ _ _ _ h hF => ⟨h.1, hF⟩
theorem main_1_2 : Claimed_1_2 := comes_1 fun _ _ _ _ _ _ h hF => ⟨h.2.1, hF⟩
end Jvm.Pilot.@@N@@
namespace Jvm.Pilot.@@N@@
open Jvm Jvm.ClassFile Sem Op Lib Jvm.Free Jvm.Stand Jvm.Pilot.@@N@@.Jvm.D
/-! MADE BY PROGRAM (witnessworld.py) out of the Statement's table words and the real class files: 9 classes; the members and pool entries that the words name. The judged class is class 1, her method 1. -/
namespace start1
open Jvm.ClassFile
def u (s : String) : CpInfo := .utf8 (stringToUtf16 s)
/-- a pool by its gaps: so many unusable entries, then the entry; so many at the end -/
def gap : Nat → List CpInfo → List CpInfo
  | 0, r => r
  | n + 1, r => .unusable :: gap n r
def poolList (es : List (Nat × CpInfo)) (last : Nat) : List CpInfo := es.foldr (fun e r => gap e.1 (e.2 :: r)) (gap last [])
def pool (es : List (Nat × CpInfo)) (last : Nat) : Array CpInfo := ⟨poolList es last⟩
def fileOf (pool : Array CpInfo) (this : Nat) (attrs : Array Attribute := #[]) (ms : Array MethodInfo := #[]) (fl : Nat := 33) (sup : Nat := 0) (ifs : Array Nat := #[]) (fds : Array FieldInfo := #[]) : ClassFile where
  minorVersion := 0
  majorVersion := 65
  constantPool := pool
  accessFlags := fl
  thisClass := this
  superClass := sup
  interfaces := ifs
  fields := fds
  methods := ms
  attributes := attrs
def plain (name : String) (sup : Option ClassId) : Class where
  name := name
  kind := .ordinary
  loader := none
  accessFlags := 33
  super := sup
  interfaces := #[]
  cf := none
  fields := #[]
  methods := #[]
  instanceTypes := #[]
  staticTypes := #[]
  resolved := #[]
  callSites := []
  init := .initialized
  statics := none
  mirror := none

def pool0 : Array CpInfo := pool [(5, u "<init>"), (0, u "()V"), (1, .class_ 10), (1, u "java/lang/Object")] 113

def k0m0 : Method := { name := "<init>", desc := "()V", sig := { parameters := [], returnType := none }, accessFlags := 1, code := none }
/-- java/lang/Object -/
def k0 : Class := { plain "java/lang/Object" none with
  accessFlags := 33
  interfaces := #[]
  cf := some (fileOf pool0 8 #[] #[{ accessFlags := 1, nameIndex := 5, descriptorIndex := 6, attributes := #[] }] 33 0 #[] #[])
  fields := #[]
  methods := #[k0m0]
  instanceTypes := #[]
  staticTypes := #[]
  resolved := Array.replicate 124 none
  statics := none }

def pool1 : Array CpInfo := pool [(2, .class_ 4), (1, u "java/lang/Object"), (0, u "<init>"), (0, u "()V"), (0, .methodref 8 9), (0, .class_ 10), (0, .nameAndType 11 12), (0, u "cardwright/core/Pin"), (0, u "acceptable"), (0, u "([B)Z"), (0, .class_ 14), (0, u "cardwright/core/PinAcceptablePinLaw"), (2, u "law"), (0, u "(III)Z")] 5

def k1m0 : Method := { name := "<init>", desc := "()V", sig := { parameters := [], returnType := none }, accessFlags := 1, code := none }
def k1c1 : Code := { maxStack := 3, maxLocals := 8, code := code, exceptionTable := #[], attributes := #[] }
def k1m1 : Method := { name := "law", desc := "(III)Z", sig := { parameters := [.int, .int, .int], returnType := some .boolean }, accessFlags := 9, code := some k1c1 }
/-- cardwright/core/PinAcceptablePinLaw -/
def k1 : Class := { plain "cardwright/core/PinAcceptablePinLaw" (some 0) with
  accessFlags := 49
  interfaces := #[]
  cf := some (fileOf pool1 13 #[] #[{ accessFlags := 1, nameIndex := 5, descriptorIndex := 6, attributes := #[] }, { accessFlags := 9, nameIndex := 17, descriptorIndex := 18, attributes := #[] }] 49 2 #[] #[])
  fields := #[]
  methods := #[k1m0, k1m1]
  instanceTypes := #[]
  staticTypes := #[]
  resolved := Array.replicate 24 none
  statics := none }

def pool2 : Array CpInfo := pool [(2, .class_ 4), (1, u "java/lang/Object"), (2, .class_ 8), (0, u "cardwright/core/Pin"), (9, u "tryLimit"), (0, u "I"), (21, u "[B"), (18, u "triesLeft"), (2, u "value"), (30, u "acceptable"), (0, u "([B)Z"), (9, u "MAX_LENGTH"), (2, u "DEFAULT_TRY_LIMIT"), (1, u "MAX_TRY_LIMIT")] 37

def k2c0 : Code := { maxStack := 2, maxLocals := 1, code := prog_55_method_5_code, exceptionTable := #[], attributes := #[] }
def k2m0 : Method := { name := "acceptable", desc := "([B)Z", sig := { parameters := [(.array .byte)], returnType := some .boolean }, accessFlags := 9, code := some k2c0 }
/-- cardwright/core/Pin -/
def k2 : Class := { plain "cardwright/core/Pin" (some 0) with
  accessFlags := 49
  interfaces := #[]
  cf := some (fileOf pool2 7 #[] #[{ accessFlags := 9, nameIndex := 94, descriptorIndex := 95, attributes := #[] }] 49 2 #[] #[{ accessFlags := 25, nameIndex := 105, descriptorIndex := 19, attributes := #[] }, { accessFlags := 25, nameIndex := 108, descriptorIndex := 19, attributes := #[] }, { accessFlags := 25, nameIndex := 110, descriptorIndex := 19, attributes := #[] }, { accessFlags := 18, nameIndex := 18, descriptorIndex := 19, attributes := #[] }, { accessFlags := 2, nameIndex := 63, descriptorIndex := 41, attributes := #[] }, { accessFlags := 2, nameIndex := 60, descriptorIndex := 19, attributes := #[] }])
  fields := #[{ name := "MAX_LENGTH", type := .int, accessFlags := 25, slot := 0, constantValue := 0 }, { name := "DEFAULT_TRY_LIMIT", type := .int, accessFlags := 25, slot := 1, constantValue := 0 }, { name := "MAX_TRY_LIMIT", type := .int, accessFlags := 25, slot := 2, constantValue := 0 }, { name := "tryLimit", type := .int, accessFlags := 18, slot := 0, constantValue := 0 }, { name := "value", type := (.array .byte), accessFlags := 2, slot := 1, constantValue := 0 }, { name := "triesLeft", type := .int, accessFlags := 2, slot := 2, constantValue := 0 }]
  methods := #[k2m0]
  instanceTypes := #[.int, (.array .byte), .int]
  staticTypes := #[.int, .int, .int]
  resolved := Array.replicate 148 none
  statics := none }

def pool3 : Array CpInfo := pool [(1, u "java/lang/Cloneable"), (0, .class_ 1), (0, u "java/lang/Object"), (0, .class_ 3)] 3

/-- java/lang/Cloneable -/
def k3 : Class := { plain "java/lang/Cloneable" (some 0) with
  accessFlags := 1537
  interfaces := #[]
  cf := some (fileOf pool3 2 #[] #[] 1537 4 #[] #[])
  fields := #[]
  methods := #[]
  instanceTypes := #[]
  staticTypes := #[]
  resolved := Array.replicate 8 none
  statics := none }

def pool4 : Array CpInfo := pool [(1, u "java/io/Serializable"), (0, .class_ 1), (0, u "java/lang/Object"), (0, .class_ 3)] 3

/-- java/io/Serializable -/
def k4 : Class := { plain "java/io/Serializable" (some 0) with
  accessFlags := 1537
  interfaces := #[]
  cf := some (fileOf pool4 2 #[] #[] 1537 4 #[] #[])
  fields := #[]
  methods := #[]
  instanceTypes := #[]
  staticTypes := #[]
  resolved := Array.replicate 8 none
  statics := none }

/-- the primitive byte -/
def k5 : Class := { plain "byte" none with kind := .primitive 'B', accessFlags := 0x411 }
/-- [B -/
def k6 : Class := { plain "[B" (some 0) with kind := .array 5 .byte, interfaces := #[3, 4], accessFlags := 1041 }

/-- the primitive int -/
def k7 : Class := { plain "int" none with kind := .primitive 'I', accessFlags := 0x411 }
/-- [I -/
def k8 : Class := { plain "[I" (some 0) with kind := .array 7 .int, interfaces := #[3, 4], accessFlags := 1041 }

def heap : Heap := #[]
def classes : Array Class := #[k0, k1, k2, k3, k4, k5, k6, k7, k8]
def interned : List (Array UInt16 × Addr) := []
def slotsUsed : Nat := 0
def theMethod : MethodId := ⟨1, 1⟩
def args0 : Array Value := #[.int 5, .int 6, .int 7]
def aboutOver (below : List Frame) : State where
  vm := { classes := classes, interned := interned.toArray }
  heap := heap
  slotsUsed := slotsUsed
  threads := #[{ frames := .invoking theMethod args0 :: below }]
def below0 : List Frame := [.native { method := ⟨0, 0⟩, args := #[] }]
def about1 : State := aboutOver below0
def p0 : Program := .bare "" "" ""
def e0 : Env := launch0.env 0 0 0
theorem w_frames : about1.frames = Frame.invoking theMethod args0 :: below0 := rfl
set_option maxRecDepth 65536 in
theorem w_args : argsFit about1.vm theMethod args0 = true := by decide +kernel
set_option maxRecDepth 65536 in
theorem w_heap : heapFits about1 = true := by decide +kernel
set_option maxRecDepth 65536 in
theorem w_runnable : about1.curStatus? = some .runnable := by decide +kernel
set_option maxRecDepth 65536 in
theorem w_alone : about1.alone = true := by decide +kernel
set_option maxRecDepth 65536 in
theorem w_named : about1.methodNamed? x = some theMethod := by decide +kernel
set_option maxRecDepth 65536 in
theorem w_hears : about1.hears theMethod below0 = true := by decide +kernel
set_option maxRecDepth 65536 in
theorem w_ripe : about1.ripe theMethod args0 below0 = true := by decide +kernel
theorem w_running : about1.status = .running := rfl
set_option maxRecDepth 65536 in
theorem w_room : about1.hasRoom e0.platform room_1 = true :=
  launch0.hasRoom_least _ room_1 (by decide +kernel) (by decide +kernel) (by decide +kernel) (by decide +kernel) (by decide +kernel) (by decide +kernel)
theorem allAtoms_all (ts : List Jvm.Cond) (a : Array Jvm.Value) (st : Jvm.State) : (allAtoms ts).before a st = ts.all (fun c => c.before a st) := by
  induction ts with
  | nil => rfl
  | cons c t ih =>
    show (Jvm.Cond.and c (allAtoms t)).before a st = _
    rw [Jvm.Cond.before_and, ih, List.all_cons]
def words1 : List Jvm.Cond := Jvm.Cond.code x code maxLocals ret :: tables_1
/-- a 'code' word, met by the world's own term for the bytes: nothing is compared byte by byte -/
theorem code_word {y : MethodName} {bytes : ByteArray} {mx : Nat} {rt : Option FieldType} {a : Array Value} {s : State} {m : MethodId} {meth : Method} {c : Code} (h1 : s.methodNamed? y = some m) (h2 : s.vm.method? m = some meth) (h3 : meth.code = some c) (h4 : c.code = bytes)
    (h5 : (c.maxLocals == mx && c.exceptionTable.isEmpty && decide (c.maxStack ≤ mostOperands) && decide (meth.sig.returnType = rt) && !meth.locks && decide (parseMethodDescriptor y.desc = some meth.sig)) = true) : (Jvm.Cond.code y bytes mx rt).before a s = true := by
  simp only [Bool.and_eq_true, beq_iff_eq, Bool.not_eq_true', decide_eq_true_eq] at h5
  obtain ⟨⟨⟨⟨⟨g1, g2⟩, g3⟩, g4⟩, g5⟩, g6⟩ := h5
  simp [Cond.before, Cond.holds, Cond.value, h1, h2, h3, h4, g1, g2, g3, g4, g5, g6]
def isCode : Jvm.Cond → Bool
  | .code _ _ _ _ => true
  | _ => false
theorem all_split {L : List Jvm.Cond} {P : Jvm.Cond → Bool} (h1 : L.all (fun c => isCode c || P c) = true) (h2 : ∀ c ∈ L.filter isCode, P c = true) : L.all P = true := by
  refine List.all_eq_true.mpr fun c hc => ?_
  have h := List.all_eq_true.mp h1 c hc
  rcases Bool.eq_false_or_eq_true (isCode c) with hi | hi
  · exact h2 c (List.mem_filter.mpr ⟨hc, hi⟩)
  · simpa [hi] using h
set_option maxRecDepth 65536 in
theorem w_c0 : (Jvm.Cond.code x code maxLocals ret).before args0 about1 = true := code_word (m := ⟨1, 1⟩) (meth := k1m1) (c := k1c1) (by decide +kernel) rfl rfl rfl (by decide +kernel)
set_option maxRecDepth 65536 in
theorem w_c1 : (Jvm.Cond.code ({ cls := "cardwright/core/Pin", name := "acceptable", desc := "([B)Z" } : Jvm.MethodName) prog_55_method_5_code (1 : Nat) (Option.some Jvm.ClassFile.FieldType.boolean)).before args0 about1 = true := code_word (m := ⟨2, 0⟩) (meth := k2m0) (c := k2c0) (by decide +kernel) rfl rfl rfl (by decide +kernel)
def codes1 : List Jvm.Cond := [Jvm.Cond.code x code maxLocals ret, Jvm.Cond.code ({ cls := "cardwright/core/Pin", name := "acceptable", desc := "([B)Z" } : Jvm.MethodName) prog_55_method_5_code (1 : Nat) (Option.some Jvm.ClassFile.FieldType.boolean)]
set_option maxRecDepth 65536 in
theorem codes_eq : words1.filter isCode = codes1 := rfl
theorem w_codes : ∀ c ∈ words1.filter isCode, c.before args0 about1 = true := by
  rw [codes_eq]
  intro c hc
  simp only [codes1, List.mem_cons, List.not_mem_nil, or_false] at hc
  rcases hc with rfl | rfl
  · exact w_c0
  · exact w_c1
set_option maxRecDepth 65536 in
theorem w_t1 : words1.all (fun c => isCode c || c.before args0 about1) = true := by decide +kernel
theorem w_tables : (allAtoms (Jvm.Cond.code x code maxLocals ret :: tables_1)).before args0 about1 = true := by
  rw [allAtoms_all]
  show words1.all (fun c => c.before args0 about1) = true
  refine all_split ?_ w_codes
  rw [w_t1]
set_option maxRecDepth 65536 in
theorem w_case : (Jvm.Cond.and given_1 narrow_1).before args0 about1 = true := by decide +kernel
theorem w_applies : (headSpec (Jvm.Cond.code x code maxLocals ret :: tables_1) room_1).applies x e0.platform about1 = true :=
  (Spec.applies_iff w_frames).mpr ⟨w_running, w_runnable, w_alone, w_named, w_hears, w_ripe, w_room, w_tables⟩
theorem atStart : AtStart classFile x code maxLocals ret World_1 tables_1 room_1 Calls_1 rest_1 Pre_1 launch0 p0 e0 about1 theMethod args0 below0 :=
  ⟨lists_1, trivial, launch0.admits_env _ _ _, launch0.least_env, fairChoices_fair.cas, fairChoices_fair.clock, w_frames, w_args, w_heap, w_applies, trivial, trivial, w_case⟩
end start1
theorem witness_1 : WitnessClaimed_1 := ⟨start1.p0, start1.e0, start1.about1, start1.theMethod, start1.args0, start1.below0, start1.atStart⟩
end Jvm.Pilot.@@N@@
