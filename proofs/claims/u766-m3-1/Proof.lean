import JvmDerived
import JvmDerived.Pilot.@@N@@Statement
import JvmDerived.Pilot.@@N@@Code
set_option linter.unusedVariables false
set_option linter.unusedSimpArgs false
namespace Jvm.RoadKit
open Sem ClassFile Op Lib Jvm.Stand Jvm.Free Jvm.LawKit
section New
variable {p : Program} {l : Launch} {e : Env} {R : Room} {s : State} {m : MethodId} {args : Array Value} {below : List Frame} {meth : Method} {c : Code} {T : State} {locs : List Loc} {cells slots : Nat}
theorem retI (X : Stand p l e R s m args below meth c T locs cells slots) (hx : p.tables.exec = Jvm.exec) {pc : Nat} {Ls : Array Slot} {z : Int32} {rest : List Value} (hret : meth.sig.returnType = some .int) (hd : decode c.code pc = .ok (.ireturn, 1)) {fs : List Frame}
    (hl : ∀ (f : JFrame) (acts : List Action), f.method = m → f.locked = none → f.entered = [] → (doReturn e (T.setTop f) acts (some (.int z))).1 = T.setFrames fs) : Steps p.tables e below (T.setTop (mkF m pc Ls (.int z :: rest))) (T.setFrames fs) := by
  have hm' : T.vm.method? m = some meth := X.method'
  have hn : narrow .int (.int z) = .int z := rfl
  show Steps p.tables e below (T.setTop { method := m, pc := pc, locals := Ls, stack := _ :: rest, locked := none }) _
  jvm_step X.here [X.here.top, hx, hd, hm', hret, hn]
  first | (intro acts; rw [hl _ acts rfl rfl rfl]) | rw [hl _ _ rfl rfl rfl]
  exact Steps.refl _
end New
end Jvm.RoadKit
namespace Jvm.Pilot.@@N@@
open Jvm Jvm.ClassFile Sem Op Lib Jvm.Free Jvm.Stand Jvm.LawKit Jvm.RoadKit Bundle Jvm.Pilot.@@N@@.Jvm.D
def QN (r : Int32) (h0 : Heap) (n0 : Nat) (v : Option Value) (h : Heap) (L : List Loc) : Prop := v = some (.int r) ∧ Fr n0 L ∧ h = h0
theorem own_lt {x y : Int32} (h : x.toInt < y.toInt) : x < y := Int32.lt_iff_toInt_lt.mpr h
theorem own_nlt {x y : Int32} (h : ¬ x.toInt < y.toInt) : ¬ x < y := fun q => h (Int32.lt_iff_toInt_lt.mp q)
theorem own_eq {x y : Int32} (h : x.toInt = y.toInt) : x = y := Int32.toInt_inj.mp h
theorem own_ne {x y : Int32} (h : ¬ x.toInt = y.toInt) : ¬ x = y := fun q => h (Int32.toInt_inj.mpr q)
/-- an int array by a function: its length N, place i holds f i -/
def It (Z : State) (h : Heap) (a : Addr) (N : Int32) (f : Nat → Int32) : Prop := ∃ c : Cell, Arr Z h a c .int ∧ c.slots.size = N.toNatClampNeg ∧ ¬ N < 0 ∧ ∀ i, i < c.slots.size → c.slots[i]? = some (.int (f i))
theorem It.new {Z : State} {h : Heap} {a : Addr} {k : ClassId} {N : Int32} (A : Arr Z h a (newA k .int N) .int) (q : ¬ N < 0) : It Z h a N (fun _ => 0) :=
  ⟨_, A, sz_new _ _ _, q, fun i hi => by rw [sz_new] at hi; simp [newA, hi, defaultValue]⟩
theorem It.set {Z : State} {h h' : Heap} {a : Addr} {N j v : Int32} {f : Nat → Int32} {c : Cell} (A : Arr Z h a c .int) (S : c.slots.size = N.toNatClampNeg) (M : ¬ N < 0) (H : ∀ i, i < c.slots.size → c.slots[i]? = some (.int (f i))) (W : Wr h h' a j.toNatClampNeg (.int v)) : It Z h' a N (fun i => if i = j.toNatClampNeg then v else f i) := by
  refine ⟨_, A.same W, by rw [sz_set]; exact S, M, fun i hi => ?_⟩
  rw [sz_set] at hi
  show (c.setSlot j.toNatClampNeg (.int v)).slots[i]? = some (.int (if i = j.toNatClampNeg then v else f i))
  by_cases u : i = j.toNatClampNeg
  · rw [if_pos u]; subst u; simp [Cell.setSlot, hi]
  · rw [if_neg u]; simp only [Cell.setSlot]; rw [Array.getElem?_setIfInBounds_ne (fun y => u y.symm)]; exact H i hi
theorem It.lt {Z : State} {h : Heap} {a : Addr} {N : Int32} {f : Nat → Int32} (B : It Z h a N f) : a < h.size := by obtain ⟨c, A, -⟩ := B; exact A.lt
theorem It.ext {Z : State} {h h' : Heap} {a : Addr} {N : Int32} {f : Nat → Int32} (B : It Z h a N f) (E : Ext h h') : It Z h' a N f := by obtain ⟨c, A, r⟩ := B; exact ⟨c, A.ext E, r⟩
theorem It.other {Z : State} {h h' : Heap} {a b : Addr} {sl : Nat} {v : Value} {N : Int32} {f : Nat → Int32} (B : It Z h b N f) (W : Wr h h' a sl v) (q : b ≠ a) : It Z h' b N f := by obtain ⟨c, A, r⟩ := B; exact ⟨c, A.other W q, r⟩
def QP (Z : State) (a d : Addr) (s n : Int32) (h0 : Heap) (n0 : Nat) (v : Option Value) (h : Heap) (L : List Loc) : Prop := v = none ∧ Fr n0 L ∧ Keep h0 h [a] ∧ Exa Z h a "com/example/demeter/demeter/engine/index/Postings" ∧ Fld Z h a "com/example/demeter/demeter/engine/index/Postings" "documents" "[I" (.ref d) ∧ Fld Z h a "com/example/demeter/demeter/engine/index/Postings" "start" "I" (.int s) ∧ Fld Z h a "com/example/demeter/demeter/engine/index/Postings" "size" "I" (.int (n - s))
theorem pn_com_example_demeter_demeter_engine_index_Postings : plainName "com/example/demeter/demeter/engine/index/Postings" = true := by first | (simp [plainName, overriddenIn]; done) | decide +kernel
theorem ef_1 (m : MethodId) (a1 : Addr) (d1 : Addr) (f1 : Addr) (s1 : Int32) (n1 : Int32) : entryFrame m #[(.ref a1), (.ref d1), (.ref f1), (.int s1), (.int n1)] 5 = mkF m 0 #[.val (.ref a1), .val (.ref d1), .val (.ref f1), .val (.int s1), .val (.int n1)] [] := by first | (simp [entryFrame, mkF, argsToLocals, Value.category]; done) | rfl
theorem d1_0 : decode prog_12_method_1_code 0 = .ok (.aload_n 0, 1) := by decide +kernel
theorem d1_1 : decode prog_12_method_1_code 1 = .ok (.invokespecial 1, 3) := by decide +kernel
theorem d1_4 : decode prog_12_method_1_code 4 = .ok (.aload_n 0, 1) := by decide +kernel
theorem d1_5 : decode prog_12_method_1_code 5 = .ok (.aload_n 1, 1) := by decide +kernel
theorem d1_6 : decode prog_12_method_1_code 6 = .ok (.putfield 7, 3) := by decide +kernel
theorem d1_9 : decode prog_12_method_1_code 9 = .ok (.aload_n 0, 1) := by decide +kernel
theorem d1_10 : decode prog_12_method_1_code 10 = .ok (.aload_n 2, 1) := by decide +kernel
theorem d1_11 : decode prog_12_method_1_code 11 = .ok (.putfield 13, 3) := by decide +kernel
theorem d1_14 : decode prog_12_method_1_code 14 = .ok (.aload_n 0, 1) := by decide +kernel
theorem d1_15 : decode prog_12_method_1_code 15 = .ok (.iload_n 3, 1) := by decide +kernel
theorem d1_16 : decode prog_12_method_1_code 16 = .ok (.putfield 17, 3) := by decide +kernel
theorem d1_19 : decode prog_12_method_1_code 19 = .ok (.aload_n 0, 1) := by decide +kernel
theorem d1_20 : decode prog_12_method_1_code 20 = .ok (.iload 4, 2) := by decide +kernel
theorem d1_22 : decode prog_12_method_1_code 22 = .ok (.iload_n 3, 1) := by decide +kernel
theorem d1_23 : decode prog_12_method_1_code 23 = .ok (.isub, 1) := by decide +kernel
theorem d1_24 : decode prog_12_method_1_code 24 = .ok (.putfield 21, 3) := by decide +kernel
theorem d1_27 : decode prog_12_method_1_code 27 = .ok (.return_, 1) := by decide +kernel
set_option maxRecDepth 65536 in
set_option maxHeartbeats 40000000 in
theorem rm1 (l : Launch) (Z : State) (a0 : Array Value) (hw : ∀ d ∈ tables_1, d.before a0 Z = true) (ws : List Jvm.Cond) (a1 : Addr) (d1 : Addr) (f1 : Addr) (s1 : Int32) (n1 : Int32) (h0 : Heap) (n0 : Nat) (Z0 : n0 ≤ h0.size) (F_documents : Fld Z h0 a1 "com/example/demeter/demeter/engine/index/Postings" "documents" "[I" .null) (F_frequencies : Fld Z h0 a1 "com/example/demeter/demeter/engine/index/Postings" "frequencies" "[D" .null) (F_start : Fld Z h0 a1 "com/example/demeter/demeter/engine/index/Postings" "start" "I" (.int (0 : Int32))) (F_size : Fld Z h0 a1 "com/example/demeter/demeter/engine/index/Postings" "size" "I" (.int (0 : Int32))) (E : Exa Z h0 a1 "com/example/demeter/demeter/engine/index/Postings") (ga : n0 ≤ a1) :
    MetFree l (⟨"com/example/demeter/demeter/engine/index/Postings", "<init>", "([I[DII)V"⟩ : MethodName) (head1 (Jvm.Cond.code (⟨"com/example/demeter/demeter/engine/index/Postings", "<init>", "([I[DII)V"⟩ : MethodName) prog_12_method_1_code 5 (none) :: ws) ({ frames := 1, cells := 0, slots := 0, locals := 12 } : Room)) (fun a U => a = #[(.ref a1), (.ref d1), (.ref f1), (.int s1), (.int n1)] ∧ Z.Warmed39 U.vm ∧ U.heap = h0) (fun _ _ _ _ _ => True) (fun _ U o U' => ∃ v L, o = .returned v ∧ QP Z a1 d1 s1 n1 h0 n0 v U'.heap L ∧ FrameEnd U o U' L ({ frames := 1, cells := 0, slots := 0, locals := 12 } : Room).cells ({ frames := 1, cells := 0, slots := 0, locals := 12 } : Room).slots) := by
  refine MetFree.of_bodySF (plainFor_of_name pn_com_example_demeter_demeter_engine_index_Postings) hisR ?_
  intro p e s m args below meth c s₁ Bd hml0 hP hK
  obtain ⟨rfl, hZ, hh⟩ := hP
  have hx := Bd.exec
  have hby := Bd.bytes
  have hml : c.maxLocals = 5 := hml0
  have hown : s.vm.findClass "com/example/demeter/demeter/engine/index/Postings" = some m.cls := findClass_of_methodNamed Bd.named
  have hnm := (name_of_methodNamed Bd.named Bd.method).1
  have X0 : Stand p l e ({ frames := 1, cells := 0, slots := 0, locals := 12 } : Room) s m #[(.ref a1), (.ref d1), (.ref f1), (.int s1), (.int n1)] below meth c s₁ [] 0 0 := Stand.of_body Bd
  have e0 : s₁.heap = h0 := by rw [← hh, Bd.state]; rfl
  have N0 := Fr.nil n0
  have pre0 : ∀ t, Steps p.tables e below (s₁.setTop (mkF m 0 #[.val (.ref a1), .val (.ref d1), .val (.ref f1), .val (.int s1), .val (.int n1)] [])) t → Steps p.tables e below (s₁.setTop (entryFrame m #[(.ref a1), (.ref d1), (.ref f1), (.int s1), (.int n1)] 5)) t := fun t k => castTop (ef_1 m a1 d1 f1 s1 n1) k
  have q1 : ∀ t, Steps p.tables e below (s₁.setTop (mkF m 1 #[.val (.ref a1), .val (.ref d1), .val (.ref f1), .val (.int s1), .val (.int n1)] [(.ref a1)])) t → Steps p.tables e below (s₁.setTop (entryFrame m #[(.ref a1), (.ref d1), (.ref f1), (.int s1), (.int n1)] 5)) t := fun t k => pre0 t (by
      show Steps p.tables e below (s₁.setTop (mkF m 0 #[.val (.ref a1), .val (.ref d1), .val (.ref f1), .val (.int s1), .val (.int n1)] [])) _
      refine XS.aloadN X0.here hx rfl (hb hby d1_0) rfl rfl ?_
      show Steps p.tables e below (s₁.setTop (mkF m 1 #[.val (.ref a1), .val (.ref d1), .val (.ref f1), .val (.int s1), .val (.int n1)] [(.ref a1)])) _
      exact k)
  obtain ⟨T2, X2, e2, st2⟩ := initO X0 hx hZ hown (hw _ (List.mem_of_getElem? (i := 9) rfl)) (hw _ (List.mem_of_getElem? (i := 10) rfl)) (hw _ (List.mem_of_getElem? (i := 11) rfl)) e0 (g := (mkF m 1 #[.val (.ref a1), .val (.ref d1), .val (.ref f1), .val (.int s1), .val (.int n1)] [(.ref a1)])) rfl (by rw [hml]; rfl) rfl (hb hby d1_1) (by decide) (W := 0) (by show 2 * 0 + _ ≤ _; exact Nat.le_of_eq rfl) (by decide)
  have q3 : ∀ t, Steps p.tables e below (T2.setTop (mkF m 4 #[.val (.ref a1), .val (.ref d1), .val (.ref f1), .val (.int s1), .val (.int n1)] [])) t → Steps p.tables e below (s₁.setTop (entryFrame m #[(.ref a1), (.ref d1), (.ref f1), (.int s1), (.int n1)] 5)) t := fun t k => q1 t (st2 t k)
  have q4 : ∀ t, Steps p.tables e below (T2.setTop (mkF m 6 #[.val (.ref a1), .val (.ref d1), .val (.ref f1), .val (.int s1), .val (.int n1)] [(.ref d1), (.ref a1)])) t → Steps p.tables e below (s₁.setTop (entryFrame m #[(.ref a1), (.ref d1), (.ref f1), (.int s1), (.int n1)] 5)) t := fun t k => q3 t (by
      show Steps p.tables e below (T2.setTop (mkF m 4 #[.val (.ref a1), .val (.ref d1), .val (.ref f1), .val (.int s1), .val (.int n1)] [])) _
      refine XS.aloadN X2.here hx rfl (hb hby d1_4) rfl rfl ?_
      show Steps p.tables e below (T2.setTop (mkF m 5 #[.val (.ref a1), .val (.ref d1), .val (.ref f1), .val (.int s1), .val (.int n1)] [(.ref a1)])) _
      refine XS.aloadN X2.here hx rfl (hb hby d1_5) rfl rfl ?_
      show Steps p.tables e below (T2.setTop (mkF m 6 #[.val (.ref a1), .val (.ref d1), .val (.ref f1), .val (.int s1), .val (.int n1)] [(.ref d1), (.ref a1)])) _
      exact k)
  obtain ⟨T5, h5, X5, e5, W5, st5⟩ := putF X2 hx hZ hown (host := "") (Or.inl (hw _ (List.mem_of_getElem? (i := 12) rfl))) Via.refl e2 (F_documents) (E) (Or.inr ⟨(hw _ (List.mem_of_getElem? (i := 13) rfl)), rfl, hnm⟩) (hw _ (List.mem_of_getElem? (i := 4) rfl)) (ty := (.array .int)) (by decide) rfl rfl (g := (mkF m 6 #[.val (.ref a1), .val (.ref d1), .val (.ref f1), .val (.int s1), .val (.int n1)] [(.ref d1), (.ref a1)])) rfl rfl (hb hby d1_6)
  have N5 := Fr.snoc X5 N0 (ga)
  have q6 : ∀ t, Steps p.tables e below (T5.setTop (mkF m 9 #[.val (.ref a1), .val (.ref d1), .val (.ref f1), .val (.int s1), .val (.int n1)] [])) t → Steps p.tables e below (s₁.setTop (entryFrame m #[(.ref a1), (.ref d1), (.ref f1), (.int s1), (.int n1)] 5)) t := fun t k => q4 t (st5 t k)
  have Z5 : n0 ≤ h5.size := Nat.le_trans Z0 (Keep.of_wr W5).1
  have G5_documents := F_documents.same W5
  have G5_frequencies := F_frequencies.other W5 (Or.inr (Jvm.RoadKit.slot_ne (t := (.array .double)) (t' := (.array .int)) (Or.inr (hw _ (List.mem_of_getElem? (i := 15) rfl))) (Or.inr (hw _ (List.mem_of_getElem? (i := 13) rfl))) (by decide) (by decide) (by decide)))
  have G5_start := F_start.other W5 (Or.inr (Jvm.RoadKit.slot_ne (t := .int) (t' := (.array .int)) (Or.inr (hw _ (List.mem_of_getElem? (i := 17) rfl))) (Or.inr (hw _ (List.mem_of_getElem? (i := 13) rfl))) (by decide) (by decide) (by decide)))
  have G5_size := F_size.other W5 (Or.inr (Jvm.RoadKit.slot_ne (t := .int) (t' := (.array .int)) (Or.inr (hw _ (List.mem_of_getElem? (i := 19) rfl))) (Or.inr (hw _ (List.mem_of_getElem? (i := 13) rfl))) (by decide) (by decide) (by decide)))
  have GE5 := Exa.wr W5 E
  have q7 : ∀ t, Steps p.tables e below (T5.setTop (mkF m 11 #[.val (.ref a1), .val (.ref d1), .val (.ref f1), .val (.int s1), .val (.int n1)] [(.ref f1), (.ref a1)])) t → Steps p.tables e below (s₁.setTop (entryFrame m #[(.ref a1), (.ref d1), (.ref f1), (.int s1), (.int n1)] 5)) t := fun t k => q6 t (by
      show Steps p.tables e below (T5.setTop (mkF m 9 #[.val (.ref a1), .val (.ref d1), .val (.ref f1), .val (.int s1), .val (.int n1)] [])) _
      refine XS.aloadN X5.here hx rfl (hb hby d1_9) rfl rfl ?_
      show Steps p.tables e below (T5.setTop (mkF m 10 #[.val (.ref a1), .val (.ref d1), .val (.ref f1), .val (.int s1), .val (.int n1)] [(.ref a1)])) _
      refine XS.aloadN X5.here hx rfl (hb hby d1_10) rfl rfl ?_
      show Steps p.tables e below (T5.setTop (mkF m 11 #[.val (.ref a1), .val (.ref d1), .val (.ref f1), .val (.int s1), .val (.int n1)] [(.ref f1), (.ref a1)])) _
      exact k)
  obtain ⟨T8, h8, X8, e8, W8, st8⟩ := putF X5 hx hZ hown (host := "") (Or.inl (hw _ (List.mem_of_getElem? (i := 14) rfl))) Via.refl e5 (G5_frequencies) (GE5) (Or.inr ⟨(hw _ (List.mem_of_getElem? (i := 15) rfl)), rfl, hnm⟩) (hw _ (List.mem_of_getElem? (i := 4) rfl)) (ty := (.array .double)) (by decide) rfl rfl (g := (mkF m 11 #[.val (.ref a1), .val (.ref d1), .val (.ref f1), .val (.int s1), .val (.int n1)] [(.ref f1), (.ref a1)])) rfl rfl (hb hby d1_11)
  have N8 := Fr.snoc X8 N5 (ga)
  have q9 : ∀ t, Steps p.tables e below (T8.setTop (mkF m 14 #[.val (.ref a1), .val (.ref d1), .val (.ref f1), .val (.int s1), .val (.int n1)] [])) t → Steps p.tables e below (s₁.setTop (entryFrame m #[(.ref a1), (.ref d1), (.ref f1), (.int s1), (.int n1)] 5)) t := fun t k => q7 t (st8 t k)
  have Z8 : n0 ≤ h8.size := Nat.le_trans Z5 (Keep.of_wr W8).1
  have G8_documents := G5_documents.other W8 (Or.inr (Jvm.RoadKit.slot_ne (t := (.array .int)) (t' := (.array .double)) (Or.inr (hw _ (List.mem_of_getElem? (i := 13) rfl))) (Or.inr (hw _ (List.mem_of_getElem? (i := 15) rfl))) (by decide) (by decide) (by decide)))
  have G8_frequencies := G5_frequencies.same W8
  have G8_start := G5_start.other W8 (Or.inr (Jvm.RoadKit.slot_ne (t := .int) (t' := (.array .double)) (Or.inr (hw _ (List.mem_of_getElem? (i := 17) rfl))) (Or.inr (hw _ (List.mem_of_getElem? (i := 15) rfl))) (by decide) (by decide) (by decide)))
  have G8_size := G5_size.other W8 (Or.inr (Jvm.RoadKit.slot_ne (t := .int) (t' := (.array .double)) (Or.inr (hw _ (List.mem_of_getElem? (i := 19) rfl))) (Or.inr (hw _ (List.mem_of_getElem? (i := 15) rfl))) (by decide) (by decide) (by decide)))
  have GE8 := Exa.wr W8 GE5
  have q10 : ∀ t, Steps p.tables e below (T8.setTop (mkF m 16 #[.val (.ref a1), .val (.ref d1), .val (.ref f1), .val (.int s1), .val (.int n1)] [(.int s1), (.ref a1)])) t → Steps p.tables e below (s₁.setTop (entryFrame m #[(.ref a1), (.ref d1), (.ref f1), (.int s1), (.int n1)] 5)) t := fun t k => q9 t (by
      show Steps p.tables e below (T8.setTop (mkF m 14 #[.val (.ref a1), .val (.ref d1), .val (.ref f1), .val (.int s1), .val (.int n1)] [])) _
      refine XS.aloadN X8.here hx rfl (hb hby d1_14) rfl rfl ?_
      show Steps p.tables e below (T8.setTop (mkF m 15 #[.val (.ref a1), .val (.ref d1), .val (.ref f1), .val (.int s1), .val (.int n1)] [(.ref a1)])) _
      refine XS.iloadN X8.here hx rfl (hb hby d1_15) rfl ?_
      show Steps p.tables e below (T8.setTop (mkF m 16 #[.val (.ref a1), .val (.ref d1), .val (.ref f1), .val (.int s1), .val (.int n1)] [(.int s1), (.ref a1)])) _
      exact k)
  obtain ⟨T11, h11, X11, e11, W11, st11⟩ := putF X8 hx hZ hown (host := "") (Or.inl (hw _ (List.mem_of_getElem? (i := 16) rfl))) Via.refl e8 (G8_start) (GE8) (Or.inr ⟨(hw _ (List.mem_of_getElem? (i := 17) rfl)), rfl, hnm⟩) (hw _ (List.mem_of_getElem? (i := 4) rfl)) (ty := .int) (by decide) rfl rfl (g := (mkF m 16 #[.val (.ref a1), .val (.ref d1), .val (.ref f1), .val (.int s1), .val (.int n1)] [(.int s1), (.ref a1)])) rfl rfl (hb hby d1_16)
  have N11 := Fr.snoc X11 N8 (ga)
  have q12 : ∀ t, Steps p.tables e below (T11.setTop (mkF m 19 #[.val (.ref a1), .val (.ref d1), .val (.ref f1), .val (.int s1), .val (.int n1)] [])) t → Steps p.tables e below (s₁.setTop (entryFrame m #[(.ref a1), (.ref d1), (.ref f1), (.int s1), (.int n1)] 5)) t := fun t k => q10 t (st11 t k)
  have Z11 : n0 ≤ h11.size := Nat.le_trans Z8 (Keep.of_wr W11).1
  have G11_documents := G8_documents.other W11 (Or.inr (Jvm.RoadKit.slot_ne (t := (.array .int)) (t' := .int) (Or.inr (hw _ (List.mem_of_getElem? (i := 13) rfl))) (Or.inr (hw _ (List.mem_of_getElem? (i := 17) rfl))) (by decide) (by decide) (by decide)))
  have G11_frequencies := G8_frequencies.other W11 (Or.inr (Jvm.RoadKit.slot_ne (t := (.array .double)) (t' := .int) (Or.inr (hw _ (List.mem_of_getElem? (i := 15) rfl))) (Or.inr (hw _ (List.mem_of_getElem? (i := 17) rfl))) (by decide) (by decide) (by decide)))
  have G11_start := G8_start.same W11
  have G11_size := G8_size.other W11 (Or.inr (Jvm.RoadKit.slot_ne (t := .int) (t' := .int) (Or.inr (hw _ (List.mem_of_getElem? (i := 19) rfl))) (Or.inr (hw _ (List.mem_of_getElem? (i := 17) rfl))) (by decide) (by decide) (by decide)))
  have GE11 := Exa.wr W11 GE8
  have q13 : ∀ t, Steps p.tables e below (T11.setTop (mkF m 24 #[.val (.ref a1), .val (.ref d1), .val (.ref f1), .val (.int s1), .val (.int n1)] [(.int (n1 - s1)), (.ref a1)])) t → Steps p.tables e below (s₁.setTop (entryFrame m #[(.ref a1), (.ref d1), (.ref f1), (.int s1), (.int n1)] 5)) t := fun t k => q12 t (by
      show Steps p.tables e below (T11.setTop (mkF m 19 #[.val (.ref a1), .val (.ref d1), .val (.ref f1), .val (.int s1), .val (.int n1)] [])) _
      refine XS.aloadN X11.here hx rfl (hb hby d1_19) rfl rfl ?_
      show Steps p.tables e below (T11.setTop (mkF m 20 #[.val (.ref a1), .val (.ref d1), .val (.ref f1), .val (.int s1), .val (.int n1)] [(.ref a1)])) _
      refine XS.iload X11.here hx rfl (hb hby d1_20) rfl ?_
      show Steps p.tables e below (T11.setTop (mkF m 22 #[.val (.ref a1), .val (.ref d1), .val (.ref f1), .val (.int s1), .val (.int n1)] [(.int n1), (.ref a1)])) _
      refine XS.iloadN X11.here hx rfl (hb hby d1_22) rfl ?_
      show Steps p.tables e below (T11.setTop (mkF m 23 #[.val (.ref a1), .val (.ref d1), .val (.ref f1), .val (.int s1), .val (.int n1)] [(.int s1), (.int n1), (.ref a1)])) _
      refine XS.isub X11.here hx rfl (hb hby d1_23) rfl ?_
      show Steps p.tables e below (T11.setTop (mkF m 24 #[.val (.ref a1), .val (.ref d1), .val (.ref f1), .val (.int s1), .val (.int n1)] [(.int (n1 - s1)), (.ref a1)])) _
      exact k)
  obtain ⟨T14, h14, X14, e14, W14, st14⟩ := putF X11 hx hZ hown (host := "") (Or.inl (hw _ (List.mem_of_getElem? (i := 18) rfl))) Via.refl e11 (G11_size) (GE11) (Or.inr ⟨(hw _ (List.mem_of_getElem? (i := 19) rfl)), rfl, hnm⟩) (hw _ (List.mem_of_getElem? (i := 4) rfl)) (ty := .int) (by decide) rfl rfl (g := (mkF m 24 #[.val (.ref a1), .val (.ref d1), .val (.ref f1), .val (.int s1), .val (.int n1)] [(.int (n1 - s1)), (.ref a1)])) rfl rfl (hb hby d1_24)
  have N14 := Fr.snoc X14 N11 (ga)
  have q15 : ∀ t, Steps p.tables e below (T14.setTop (mkF m 27 #[.val (.ref a1), .val (.ref d1), .val (.ref f1), .val (.int s1), .val (.int n1)] [])) t → Steps p.tables e below (s₁.setTop (entryFrame m #[(.ref a1), (.ref d1), (.ref f1), (.int s1), (.int n1)] 5)) t := fun t k => q13 t (st14 t k)
  have Z14 : n0 ≤ h14.size := Nat.le_trans Z11 (Keep.of_wr W14).1
  have G14_documents := G11_documents.other W14 (Or.inr (Jvm.RoadKit.slot_ne (t := (.array .int)) (t' := .int) (Or.inr (hw _ (List.mem_of_getElem? (i := 13) rfl))) (Or.inr (hw _ (List.mem_of_getElem? (i := 19) rfl))) (by decide) (by decide) (by decide)))
  have G14_frequencies := G11_frequencies.other W14 (Or.inr (Jvm.RoadKit.slot_ne (t := (.array .double)) (t' := .int) (Or.inr (hw _ (List.mem_of_getElem? (i := 15) rfl))) (Or.inr (hw _ (List.mem_of_getElem? (i := 19) rfl))) (by decide) (by decide) (by decide)))
  have G14_start := G11_start.other W14 (Or.inr (Jvm.RoadKit.slot_ne (t := .int) (t' := .int) (Or.inr (hw _ (List.mem_of_getElem? (i := 17) rfl))) (Or.inr (hw _ (List.mem_of_getElem? (i := 19) rfl))) (by decide) (by decide) (by decide)))
  have G14_size := G11_size.same W14
  have GE14 := Exa.wr W14 GE11
  obtain ⟨fs, hr, hrun, hended, hW, hsame⟩ := X14.leave (v := none) (fun _ => rfl)
  refine ⟨_, _, q15 _ ?_, hrun, hended, _, _, rfl, ?_, ⟨_, rfl⟩, hW, hsame.mono (by decide) (by decide)⟩
  · show Steps p.tables e below (T14.setTop (mkF m 27 #[.val (.ref a1), .val (.ref d1), .val (.ref f1), .val (.int s1), .val (.int n1)] [])) _
    exact X14.returnOut hx Bd.returns (hb hby d1_27) hr
  · show QP Z a1 d1 s1 n1 h0 n0 _ T14.heap _
    rw [e14]
    exact ⟨rfl, N14, (((((Keep.refl _ _).wr W5 (Or.inl (List.mem_of_getElem? (i := 0) rfl))).wr W8 (Or.inl (List.mem_of_getElem? (i := 0) rfl))).wr W11 (Or.inl (List.mem_of_getElem? (i := 0) rfl))).wr W14 (Or.inl (List.mem_of_getElem? (i := 0) rfl))), GE14, G14_documents, G14_start, G14_size⟩
theorem pn_jdk_internal_util_Preconditions : plainName "jdk/internal/util/Preconditions" = true := by first | (simp [plainName, overriddenIn]; done) | decide +kernel
theorem ef_2 (m : MethodId) (i1 : Int32) (n1 : Int32) : entryFrame m #[(.int i1), (.int n1), .null] 3 = mkF m 0 #[.val (.int i1), .val (.int n1), .val .null] [] := by first | (simp [entryFrame, mkF, argsToLocals, Value.category]; done) | rfl
theorem d2_0 : decode jdk_41_method_11_code 0 = .ok (.iload_n 0, 1) := by decide +kernel
theorem d2_1 : decode jdk_41_method_11_code 1 = .ok (.ifCond .lt 8, 3) := by decide +kernel
theorem d2_4 : decode jdk_41_method_11_code 4 = .ok (.iload_n 0, 1) := by decide +kernel
theorem d2_5 : decode jdk_41_method_11_code 5 = .ok (.iload_n 1, 1) := by decide +kernel
theorem d2_6 : decode jdk_41_method_11_code 6 = .ok (.if_icmp .lt 10, 3) := by decide +kernel
theorem d2_16 : decode jdk_41_method_11_code 16 = .ok (.iload_n 0, 1) := by decide +kernel
theorem d2_17 : decode jdk_41_method_11_code 17 = .ok (.ireturn, 1) := by decide +kernel
set_option maxRecDepth 65536 in
set_option maxHeartbeats 40000000 in
theorem rm2 (l : Launch) (Z : State) (a0 : Array Value) (hw : ∀ d ∈ tables_1, d.before a0 Z = true) (ws : List Jvm.Cond) (i1 : Int32) (n1 : Int32) (h0 : Heap) (n0 : Nat) (Z0 : n0 ≤ h0.size) (hlo : ¬ i1 < (0 : Int32)) (hhi : i1 < n1) :
    MetFree l (⟨"jdk/internal/util/Preconditions", "checkIndex", "(IILjava/util/function/BiFunction;)I"⟩ : MethodName) (head1 (Jvm.Cond.code (⟨"jdk/internal/util/Preconditions", "checkIndex", "(IILjava/util/function/BiFunction;)I"⟩ : MethodName) jdk_41_method_11_code 3 (some .int) :: ws) ({ frames := 0, cells := 0, slots := 0, locals := 0 } : Room)) (fun a U => a = #[(.int i1), (.int n1), .null] ∧ Z.Warmed39 U.vm ∧ U.heap = h0) (fun _ _ _ _ _ => True) (fun _ U o U' => ∃ v L, o = .returned v ∧ QN i1 h0 n0 v U'.heap L ∧ FrameEnd U o U' L ({ frames := 0, cells := 0, slots := 0, locals := 0 } : Room).cells ({ frames := 0, cells := 0, slots := 0, locals := 0 } : Room).slots) := by
  refine MetFree.of_bodySF (plainFor_of_name pn_jdk_internal_util_Preconditions) hisR ?_
  intro p e s m args below meth c s₁ Bd hml0 hP hK
  obtain ⟨rfl, hZ, hh⟩ := hP
  have hx := Bd.exec
  have hby := Bd.bytes
  have hml : c.maxLocals = 3 := hml0
  have hown : s.vm.findClass "jdk/internal/util/Preconditions" = some m.cls := findClass_of_methodNamed Bd.named
  have hnm := (name_of_methodNamed Bd.named Bd.method).1
  have X0 : Stand p l e ({ frames := 0, cells := 0, slots := 0, locals := 0 } : Room) s m #[(.int i1), (.int n1), .null] below meth c s₁ [] 0 0 := Stand.of_body Bd
  have e0 : s₁.heap = h0 := by rw [← hh, Bd.state]; rfl
  have N0 := Fr.nil n0
  have pre0 : ∀ t, Steps p.tables e below (s₁.setTop (mkF m 0 #[.val (.int i1), .val (.int n1), .val .null] [])) t → Steps p.tables e below (s₁.setTop (entryFrame m #[(.int i1), (.int n1), .null] 3)) t := fun t k => castTop (ef_2 m i1 n1) k
  have q16 : ∀ t, Steps p.tables e below (s₁.setTop (mkF m 17 #[.val (.int i1), .val (.int n1), .val .null] [(.int i1)])) t → Steps p.tables e below (s₁.setTop (entryFrame m #[(.int i1), (.int n1), .null] 3)) t := fun t k => pre0 t (by
      show Steps p.tables e below (s₁.setTop (mkF m 0 #[.val (.int i1), .val (.int n1), .val .null] [])) _
      refine XS.iloadN X0.here hx rfl (hb hby d2_0) rfl ?_
      show Steps p.tables e below (s₁.setTop (mkF m 1 #[.val (.int i1), .val (.int n1), .val .null] [(.int i1)])) _
      refine XS.ifNo X0.here hx rfl (hb hby d2_1) rfl (XT.i0_lt_f (hlo : ¬ (i1 < (0 : Int32)))) ?_
      show Steps p.tables e below (s₁.setTop (mkF m 4 #[.val (.int i1), .val (.int n1), .val .null] [])) _
      refine XS.iloadN X0.here hx rfl (hb hby d2_4) rfl ?_
      show Steps p.tables e below (s₁.setTop (mkF m 5 #[.val (.int i1), .val (.int n1), .val .null] [(.int i1)])) _
      refine XS.iloadN X0.here hx rfl (hb hby d2_5) rfl ?_
      show Steps p.tables e below (s₁.setTop (mkF m 6 #[.val (.int i1), .val (.int n1), .val .null] [(.int n1), (.int i1)])) _
      refine XS.icmpYes X0.here hx rfl (pc0 := 6) (pc' := 16) rfl (hb hby d2_6) rfl (XT.ii_lt_t (hhi : i1 < n1)) (by decide) (by decide) ?_
      show Steps p.tables e below (s₁.setTop (mkF m 16 #[.val (.int i1), .val (.int n1), .val .null] [])) _
      refine XS.iloadN X0.here hx rfl (hb hby d2_16) rfl ?_
      show Steps p.tables e below (s₁.setTop (mkF m 17 #[.val (.int i1), .val (.int n1), .val .null] [(.int i1)])) _
      exact k)
  obtain ⟨fs, hr, hrun, hended, hW, hsame⟩ := X0.leave (v := some (.int i1)) (fun h => by rw [Bd.returns] at h; cases h)
  refine ⟨_, _, q16 _ ?_, hrun, hended, _, _, rfl, ?_, ⟨_, rfl⟩, hW, hsame.mono (by decide) (by decide)⟩
  · show Steps p.tables e below (s₁.setTop (mkF m 17 #[.val (.int i1), .val (.int n1), .val .null] [(.int i1)])) _
    exact retI X0 hx Bd.returns (hb hby d2_17) hr
  · show QN i1 h0 n0 _ s₁.heap _
    exact ⟨rfl, N0, e0⟩
theorem pn_java_util_Objects : plainName "java/util/Objects" = true := by first | (simp [plainName, overriddenIn]; done) | decide +kernel
theorem ef_3 (m : MethodId) (i1 : Int32) (n1 : Int32) : entryFrame m #[(.int i1), (.int n1)] 2 = mkF m 0 #[.val (.int i1), .val (.int n1)] [] := by first | (simp [entryFrame, mkF, argsToLocals, Value.category]; done) | rfl
theorem d3_0 : decode jdk_31_method_17_code 0 = .ok (.iload_n 0, 1) := by decide +kernel
theorem d3_1 : decode jdk_31_method_17_code 1 = .ok (.iload_n 1, 1) := by decide +kernel
theorem d3_2 : decode jdk_31_method_17_code 2 = .ok (.aconst_null, 1) := by decide +kernel
theorem pd__IILjava_util_function_BiFunction__I : parseMethodDescriptor "(IILjava/util/function/BiFunction;)I" = some ⟨[.int, .int, (.object "java/util/function/BiFunction")], some .int⟩ := by decide +kernel
theorem d3_3 : decode jdk_31_method_17_code 3 = .ok (.invokestatic 105, 3) := by decide +kernel
theorem d3_6 : decode jdk_31_method_17_code 6 = .ok (.ireturn, 1) := by decide +kernel
set_option maxRecDepth 65536 in
set_option maxHeartbeats 40000000 in
theorem rm3 (l : Launch) (Z : State) (a0 : Array Value) (hw : ∀ d ∈ tables_1, d.before a0 Z = true) (ws : List Jvm.Cond) (i1 : Int32) (n1 : Int32) (h0 : Heap) (n0 : Nat) (Z0 : n0 ≤ h0.size) (hlo : ¬ i1 < (0 : Int32)) (hhi : i1 < n1) :
    MetFree l (⟨"java/util/Objects", "checkIndex", "(II)I"⟩ : MethodName) (head1 (Jvm.Cond.code (⟨"java/util/Objects", "checkIndex", "(II)I"⟩ : MethodName) jdk_31_method_17_code 2 (some .int) :: ws) ({ frames := 1, cells := 0, slots := 0, locals := 14 } : Room)) (fun a U => a = #[(.int i1), (.int n1)] ∧ Z.Warmed39 U.vm ∧ U.heap = h0) (fun _ _ _ _ _ => True) (fun _ U o U' => ∃ v L, o = .returned v ∧ QN i1 h0 n0 v U'.heap L ∧ FrameEnd U o U' L ({ frames := 1, cells := 0, slots := 0, locals := 14 } : Room).cells ({ frames := 1, cells := 0, slots := 0, locals := 14 } : Room).slots) := by
  refine MetFree.of_bodySF (plainFor_of_name pn_java_util_Objects) hisR ?_
  intro p e s m args below meth c s₁ Bd hml0 hP hK
  obtain ⟨rfl, hZ, hh⟩ := hP
  have hx := Bd.exec
  have hby := Bd.bytes
  have hml : c.maxLocals = 2 := hml0
  have hown : s.vm.findClass "java/util/Objects" = some m.cls := findClass_of_methodNamed Bd.named
  have hnm := (name_of_methodNamed Bd.named Bd.method).1
  have X0 : Stand p l e ({ frames := 1, cells := 0, slots := 0, locals := 14 } : Room) s m #[(.int i1), (.int n1)] below meth c s₁ [] 0 0 := Stand.of_body Bd
  have e0 : s₁.heap = h0 := by rw [← hh, Bd.state]; rfl
  have N0 := Fr.nil n0
  have pre0 : ∀ t, Steps p.tables e below (s₁.setTop (mkF m 0 #[.val (.int i1), .val (.int n1)] [])) t → Steps p.tables e below (s₁.setTop (entryFrame m #[(.int i1), (.int n1)] 2)) t := fun t k => castTop (ef_3 m i1 n1) k
  have q17 : ∀ t, Steps p.tables e below (s₁.setTop (mkF m 3 #[.val (.int i1), .val (.int n1)] [.null, (.int n1), (.int i1)])) t → Steps p.tables e below (s₁.setTop (entryFrame m #[(.int i1), (.int n1)] 2)) t := fun t k => pre0 t (by
      show Steps p.tables e below (s₁.setTop (mkF m 0 #[.val (.int i1), .val (.int n1)] [])) _
      refine XS.iloadN X0.here hx rfl (hb hby d3_0) rfl ?_
      show Steps p.tables e below (s₁.setTop (mkF m 1 #[.val (.int i1), .val (.int n1)] [(.int i1)])) _
      refine XS.iloadN X0.here hx rfl (hb hby d3_1) rfl ?_
      show Steps p.tables e below (s₁.setTop (mkF m 2 #[.val (.int i1), .val (.int n1)] [(.int n1), (.int i1)])) _
      refine XS.aconstNull X0.here hx rfl (hb hby d3_2) ?_
      show Steps p.tables e below (s₁.setTop (mkF m 3 #[.val (.int i1), .val (.int n1)] [.null, (.int n1), (.int i1)])) _
      exact k)
  obtain ⟨_, _, ⟨T18, L18, kk18, nn18⟩, -, X18, ⟨Lc18, hQ18, l18, y18, z18⟩, st18⟩ := Jvm.LawKit.callS X0 hx (y := (⟨"jdk/internal/util/Preconditions", "checkIndex", "(IILjava/util/function/BiFunction;)I"⟩ : MethodName)) hown (mvT hZ (hw _ (List.mem_of_getElem? (i := 29) rfl))) (mvT hZ (hw _ (List.mem_of_getElem? (i := 30) rfl))) (mvT hZ (hw _ (List.mem_of_getElem? (i := 31) rfl))) (mvT hZ (hw _ (List.mem_of_getElem? (i := 32) rfl))) (by decide) (backOf (W := 0) (rm2 l Z a0 hw [] i1 n1 h0 n0 Z0 hlo hhi) hZ (hw _ (List.mem_of_getElem? (i := 32) rfl)) (hw _ (List.mem_of_getElem? (i := 31) rfl)) (by decide) (by decide)) (g := (mkF m 3 #[.val (.int i1), .val (.int n1)] [.null, (.int n1), (.int i1)])) rfl (by rw [hml]; rfl) (argsL := [(.int i1), (.int n1), .null]) (rest := []) (lenOf pd__IILjava_util_function_BiFunction__I rfl) rfl (by show 2 * 0 + _ ≤ _; exact Nat.le_of_eq rfl) (hb hby d3_3) (fun _ _ => ⟨rfl, e0, (by decide : 0 + 0 ≤ _), (by decide : 0 + 0 ≤ _)⟩)
  dsimp only [Pt.U, Pt.locs, Pt.cells, Pt.slots] at X18 l18 y18 z18 st18 hQ18
  subst l18 y18 z18
  obtain ⟨rfl, Nq18, e18⟩ := hQ18
  have N18 := Fr.app N0 Nq18
  have q19 : ∀ t, Steps p.tables e below (T18.setTop (mkF m 6 #[.val (.int i1), .val (.int n1)] [(.int i1)])) t → Steps p.tables e below (s₁.setTop (entryFrame m #[(.int i1), (.int n1)] 2)) t := fun t k => q17 t (st18 t k)
  obtain ⟨fs, hr, hrun, hended, hW, hsame⟩ := X18.leave (v := some (.int i1)) (fun h => by rw [Bd.returns] at h; cases h)
  refine ⟨_, _, q19 _ ?_, hrun, hended, _, _, rfl, ?_, ⟨_, rfl⟩, hW, hsame.mono (by decide) (by decide)⟩
  · show Steps p.tables e below (T18.setTop (mkF m 6 #[.val (.int i1), .val (.int n1)] [(.int i1)])) _
    exact retI X18 hx Bd.returns (hb hby d3_6) hr
  · show QN i1 h0 n0 _ T18.heap _
    exact ⟨rfl, N18, e18⟩
theorem ef_4 (m : MethodId) (a1 : Addr) (i1 : Int32) : entryFrame m #[(.ref a1), (.int i1)] 2 = mkF m 0 #[.val (.ref a1), .val (.int i1)] [] := by first | (simp [entryFrame, mkF, argsToLocals, Value.category]; done) | rfl
theorem d4_0 : decode prog_12_method_3_code 0 = .ok (.aload_n 0, 1) := by decide +kernel
theorem d4_1 : decode prog_12_method_3_code 1 = .ok (.getfield 7, 3) := by decide +kernel
theorem d4_4 : decode prog_12_method_3_code 4 = .ok (.aload_n 0, 1) := by decide +kernel
theorem d4_5 : decode prog_12_method_3_code 5 = .ok (.getfield 17, 3) := by decide +kernel
theorem d4_8 : decode prog_12_method_3_code 8 = .ok (.iload_n 1, 1) := by decide +kernel
theorem d4_9 : decode prog_12_method_3_code 9 = .ok (.aload_n 0, 1) := by decide +kernel
theorem d4_10 : decode prog_12_method_3_code 10 = .ok (.getfield 21, 3) := by decide +kernel
theorem pd__II_I : parseMethodDescriptor "(II)I" = some ⟨[.int, .int], some .int⟩ := by decide +kernel
theorem d4_13 : decode prog_12_method_3_code 13 = .ok (.invokestatic 24, 3) := by decide +kernel
theorem d4_16 : decode prog_12_method_3_code 16 = .ok (.iadd, 1) := by decide +kernel
theorem d4_17 : decode prog_12_method_3_code 17 = .ok (.iaload, 1) := by decide +kernel
theorem d4_18 : decode prog_12_method_3_code 18 = .ok (.ireturn, 1) := by decide +kernel
set_option maxRecDepth 65536 in
set_option maxHeartbeats 40000000 in
theorem rm4 (l : Launch) (Z : State) (a0 : Array Value) (hw : ∀ d ∈ tables_1, d.before a0 Z = true) (ws : List Jvm.Cond) (a1 : Addr) (i1 : Int32) (d1 : Addr) (s1 z1 v1 : Int32) (cl : Cell) (h0 : Heap) (n0 : Nat) (Z0 : n0 ≤ h0.size) (Fd : Fld Z h0 a1 "com/example/demeter/demeter/engine/index/Postings" "documents" "[I" (.ref d1)) (Fs : Fld Z h0 a1 "com/example/demeter/demeter/engine/index/Postings" "start" "I" (.int s1)) (Fz : Fld Z h0 a1 "com/example/demeter/demeter/engine/index/Postings" "size" "I" (.int z1)) (hlo : ¬ i1 < (0 : Int32)) (hhi : i1 < z1) (Ar : Arr Z h0 d1 cl .int) (hin : ¬ ((s1 + i1) < 0 ∨ cl.slots.size ≤ (s1 + i1).toNatClampNeg)) (hat : cl.slots[(s1 + i1).toNatClampNeg]? = some (.int v1)) :
    MetFree l (⟨"com/example/demeter/demeter/engine/index/Postings", "document", "(I)I"⟩ : MethodName) (head1 (Jvm.Cond.code (⟨"com/example/demeter/demeter/engine/index/Postings", "document", "(I)I"⟩ : MethodName) prog_12_method_3_code 2 (some .int) :: ws) ({ frames := 2, cells := 0, slots := 0, locals := 29 } : Room)) (fun a U => a = #[(.ref a1), (.int i1)] ∧ Z.Warmed39 U.vm ∧ U.heap = h0) (fun _ _ _ _ _ => True) (fun _ U o U' => ∃ v L, o = .returned v ∧ QN v1 h0 n0 v U'.heap L ∧ FrameEnd U o U' L ({ frames := 2, cells := 0, slots := 0, locals := 29 } : Room).cells ({ frames := 2, cells := 0, slots := 0, locals := 29 } : Room).slots) := by
  refine MetFree.of_bodySF (plainFor_of_name pn_com_example_demeter_demeter_engine_index_Postings) hisR ?_
  intro p e s m args below meth c s₁ Bd hml0 hP hK
  obtain ⟨rfl, hZ, hh⟩ := hP
  have hx := Bd.exec
  have hby := Bd.bytes
  have hml : c.maxLocals = 2 := hml0
  have hown : s.vm.findClass "com/example/demeter/demeter/engine/index/Postings" = some m.cls := findClass_of_methodNamed Bd.named
  have hnm := (name_of_methodNamed Bd.named Bd.method).1
  have X0 : Stand p l e ({ frames := 2, cells := 0, slots := 0, locals := 29 } : Room) s m #[(.ref a1), (.int i1)] below meth c s₁ [] 0 0 := Stand.of_body Bd
  have e0 : s₁.heap = h0 := by rw [← hh, Bd.state]; rfl
  have N0 := Fr.nil n0
  have pre0 : ∀ t, Steps p.tables e below (s₁.setTop (mkF m 0 #[.val (.ref a1), .val (.int i1)] [])) t → Steps p.tables e below (s₁.setTop (entryFrame m #[(.ref a1), (.int i1)] 2)) t := fun t k => castTop (ef_4 m a1 i1) k
  have q20 : ∀ t, Steps p.tables e below (s₁.setTop (mkF m 1 #[.val (.ref a1), .val (.int i1)] [(.ref a1)])) t → Steps p.tables e below (s₁.setTop (entryFrame m #[(.ref a1), (.int i1)] 2)) t := fun t k => pre0 t (by
      show Steps p.tables e below (s₁.setTop (mkF m 0 #[.val (.ref a1), .val (.int i1)] [])) _
      refine XS.aloadN X0.here hx rfl (hb hby d4_0) rfl rfl ?_
      show Steps p.tables e below (s₁.setTop (mkF m 1 #[.val (.ref a1), .val (.int i1)] [(.ref a1)])) _
      exact k)
  obtain ⟨T21, X21, e21, st21⟩ := getF X0 hx hZ hown (host := "") (Or.inl (hw _ (List.mem_of_getElem? (i := 12) rfl))) Via.refl e0 (Fd) (g := (mkF m 1 #[.val (.ref a1), .val (.int i1)] [(.ref a1)])) rfl rfl (hb hby d4_1)
  have q22 : ∀ t, Steps p.tables e below (T21.setTop (mkF m 4 #[.val (.ref a1), .val (.int i1)] [(.ref d1)])) t → Steps p.tables e below (s₁.setTop (entryFrame m #[(.ref a1), (.int i1)] 2)) t := fun t k => q20 t (st21 t k)
  have q23 : ∀ t, Steps p.tables e below (T21.setTop (mkF m 5 #[.val (.ref a1), .val (.int i1)] [(.ref a1), (.ref d1)])) t → Steps p.tables e below (s₁.setTop (entryFrame m #[(.ref a1), (.int i1)] 2)) t := fun t k => q22 t (by
      show Steps p.tables e below (T21.setTop (mkF m 4 #[.val (.ref a1), .val (.int i1)] [(.ref d1)])) _
      refine XS.aloadN X21.here hx rfl (hb hby d4_4) rfl rfl ?_
      show Steps p.tables e below (T21.setTop (mkF m 5 #[.val (.ref a1), .val (.int i1)] [(.ref a1), (.ref d1)])) _
      exact k)
  obtain ⟨T24, X24, e24, st24⟩ := getF X21 hx hZ hown (host := "") (Or.inl (hw _ (List.mem_of_getElem? (i := 16) rfl))) Via.refl e21 (Fs) (g := (mkF m 5 #[.val (.ref a1), .val (.int i1)] [(.ref a1), (.ref d1)])) rfl rfl (hb hby d4_5)
  have q25 : ∀ t, Steps p.tables e below (T24.setTop (mkF m 8 #[.val (.ref a1), .val (.int i1)] [(.int s1), (.ref d1)])) t → Steps p.tables e below (s₁.setTop (entryFrame m #[(.ref a1), (.int i1)] 2)) t := fun t k => q23 t (st24 t k)
  have q26 : ∀ t, Steps p.tables e below (T24.setTop (mkF m 10 #[.val (.ref a1), .val (.int i1)] [(.ref a1), (.int i1), (.int s1), (.ref d1)])) t → Steps p.tables e below (s₁.setTop (entryFrame m #[(.ref a1), (.int i1)] 2)) t := fun t k => q25 t (by
      show Steps p.tables e below (T24.setTop (mkF m 8 #[.val (.ref a1), .val (.int i1)] [(.int s1), (.ref d1)])) _
      refine XS.iloadN X24.here hx rfl (hb hby d4_8) rfl ?_
      show Steps p.tables e below (T24.setTop (mkF m 9 #[.val (.ref a1), .val (.int i1)] [(.int i1), (.int s1), (.ref d1)])) _
      refine XS.aloadN X24.here hx rfl (hb hby d4_9) rfl rfl ?_
      show Steps p.tables e below (T24.setTop (mkF m 10 #[.val (.ref a1), .val (.int i1)] [(.ref a1), (.int i1), (.int s1), (.ref d1)])) _
      exact k)
  obtain ⟨T27, X27, e27, st27⟩ := getF X24 hx hZ hown (host := "") (Or.inl (hw _ (List.mem_of_getElem? (i := 18) rfl))) Via.refl e24 (Fz) (g := (mkF m 10 #[.val (.ref a1), .val (.int i1)] [(.ref a1), (.int i1), (.int s1), (.ref d1)])) rfl rfl (hb hby d4_10)
  have q28 : ∀ t, Steps p.tables e below (T27.setTop (mkF m 13 #[.val (.ref a1), .val (.int i1)] [(.int z1), (.int i1), (.int s1), (.ref d1)])) t → Steps p.tables e below (s₁.setTop (entryFrame m #[(.ref a1), (.int i1)] 2)) t := fun t k => q26 t (st27 t k)
  obtain ⟨_, _, ⟨T29, L29, kk29, nn29⟩, -, X29, ⟨Lc29, hQ29, l29, y29, z29⟩, st29⟩ := Jvm.LawKit.callS X27 hx (y := (⟨"java/util/Objects", "checkIndex", "(II)I"⟩ : MethodName)) hown (mvT hZ (hw _ (List.mem_of_getElem? (i := 25) rfl))) (mvT hZ (hw _ (List.mem_of_getElem? (i := 26) rfl))) (mvT hZ (hw _ (List.mem_of_getElem? (i := 27) rfl))) (mvT hZ (hw _ (List.mem_of_getElem? (i := 28) rfl))) (by decide) (backOf (W := 2) (rm3 l Z a0 hw [] i1 z1 h0 n0 Z0 hlo hhi) hZ (hw _ (List.mem_of_getElem? (i := 28) rfl)) (hw _ (List.mem_of_getElem? (i := 27) rfl)) (by decide) (by decide)) (g := (mkF m 13 #[.val (.ref a1), .val (.int i1)] [(.int z1), (.int i1), (.int s1), (.ref d1)])) rfl (by rw [hml]; rfl) (argsL := [(.int i1), (.int z1)]) (rest := [(.int s1), (.ref d1)]) (lenOf pd__II_I rfl) rfl (by show 2 * 0 + _ ≤ _; exact Nat.le_of_eq rfl) (hb hby d4_13) (fun _ _ => ⟨rfl, e27, (by decide : 0 + 0 ≤ _), (by decide : 0 + 0 ≤ _)⟩)
  dsimp only [Pt.U, Pt.locs, Pt.cells, Pt.slots] at X29 l29 y29 z29 st29 hQ29
  subst l29 y29 z29
  obtain ⟨rfl, Nq29, e29⟩ := hQ29
  have N29 := Fr.app N0 Nq29
  have q30 : ∀ t, Steps p.tables e below (T29.setTop (mkF m 16 #[.val (.ref a1), .val (.int i1)] [(.int i1), (.int s1), (.ref d1)])) t → Steps p.tables e below (s₁.setTop (entryFrame m #[(.ref a1), (.int i1)] 2)) t := fun t k => q28 t (st29 t k)
  have q31 : ∀ t, Steps p.tables e below (T29.setTop (mkF m 18 #[.val (.ref a1), .val (.int i1)] [(.int v1)])) t → Steps p.tables e below (s₁.setTop (entryFrame m #[(.ref a1), (.int i1)] 2)) t := fun t k => q30 t (by
      show Steps p.tables e below (T29.setTop (mkF m 16 #[.val (.ref a1), .val (.int i1)] [(.int i1), (.int s1), (.ref d1)])) _
      refine XS.iadd X29.here hx rfl (hb hby d4_16) rfl ?_
      show Steps p.tables e below (T29.setTop (mkF m 17 #[.val (.ref a1), .val (.int i1)] [(.int (s1 + i1)), (.ref d1)])) _
      refine X29.iaload hx (j := (s1 + i1)) (v := (.int v1)) (by rw [e29]; exact Ar.1) (State.isArrayOf_alike hZ.alike Ar.2.1) Ar.2.2 (hin) (hat) (g := (mkF m 17 #[.val (.ref a1), .val (.int i1)] [(.int (s1 + i1)), (.ref d1)])) rfl rfl (hb hby d4_17) _ ?_
      show Steps p.tables e below (T29.setTop (mkF m 18 #[.val (.ref a1), .val (.int i1)] [(.int v1)])) _
      exact k)
  obtain ⟨fs, hr, hrun, hended, hW, hsame⟩ := X29.leave (v := some (.int v1)) (fun h => by rw [Bd.returns] at h; cases h)
  refine ⟨_, _, q31 _ ?_, hrun, hended, _, _, rfl, ?_, ⟨_, rfl⟩, hW, hsame.mono (by decide) (by decide)⟩
  · show Steps p.tables e below (T29.setTop (mkF m 18 #[.val (.ref a1), .val (.int i1)] [(.int v1)])) _
    exact retI X29 hx Bd.returns (hb hby d4_18) hr
  · show QN v1 h0 n0 _ T29.heap _
    exact ⟨rfl, N29, e29⟩
theorem ef_5 (m : MethodId) (a1 : Addr) : entryFrame m #[(.ref a1)] 1 = mkF m 0 #[.val (.ref a1)] [] := by first | (simp [entryFrame, mkF, argsToLocals, Value.category]; done) | rfl
theorem d5_0 : decode prog_12_method_2_code 0 = .ok (.aload_n 0, 1) := by decide +kernel
theorem d5_1 : decode prog_12_method_2_code 1 = .ok (.getfield 21, 3) := by decide +kernel
theorem d5_4 : decode prog_12_method_2_code 4 = .ok (.ireturn, 1) := by decide +kernel
set_option maxRecDepth 65536 in
set_option maxHeartbeats 40000000 in
theorem rm5 (l : Launch) (Z : State) (a0 : Array Value) (hw : ∀ d ∈ tables_1, d.before a0 Z = true) (ws : List Jvm.Cond) (a1 : Addr) (z1 : Int32) (h0 : Heap) (n0 : Nat) (Z0 : n0 ≤ h0.size) (Fz : Fld Z h0 a1 "com/example/demeter/demeter/engine/index/Postings" "size" "I" (.int z1)) :
    MetFree l (⟨"com/example/demeter/demeter/engine/index/Postings", "size", "()I"⟩ : MethodName) (head1 (Jvm.Cond.code (⟨"com/example/demeter/demeter/engine/index/Postings", "size", "()I"⟩ : MethodName) prog_12_method_2_code 1 (some .int) :: ws) ({ frames := 0, cells := 0, slots := 0, locals := 0 } : Room)) (fun a U => a = #[(.ref a1)] ∧ Z.Warmed39 U.vm ∧ U.heap = h0) (fun _ _ _ _ _ => True) (fun _ U o U' => ∃ v L, o = .returned v ∧ QN z1 h0 n0 v U'.heap L ∧ FrameEnd U o U' L ({ frames := 0, cells := 0, slots := 0, locals := 0 } : Room).cells ({ frames := 0, cells := 0, slots := 0, locals := 0 } : Room).slots) := by
  refine MetFree.of_bodySF (plainFor_of_name pn_com_example_demeter_demeter_engine_index_Postings) hisR ?_
  intro p e s m args below meth c s₁ Bd hml0 hP hK
  obtain ⟨rfl, hZ, hh⟩ := hP
  have hx := Bd.exec
  have hby := Bd.bytes
  have hml : c.maxLocals = 1 := hml0
  have hown : s.vm.findClass "com/example/demeter/demeter/engine/index/Postings" = some m.cls := findClass_of_methodNamed Bd.named
  have hnm := (name_of_methodNamed Bd.named Bd.method).1
  have X0 : Stand p l e ({ frames := 0, cells := 0, slots := 0, locals := 0 } : Room) s m #[(.ref a1)] below meth c s₁ [] 0 0 := Stand.of_body Bd
  have e0 : s₁.heap = h0 := by rw [← hh, Bd.state]; rfl
  have N0 := Fr.nil n0
  have pre0 : ∀ t, Steps p.tables e below (s₁.setTop (mkF m 0 #[.val (.ref a1)] [])) t → Steps p.tables e below (s₁.setTop (entryFrame m #[(.ref a1)] 1)) t := fun t k => castTop (ef_5 m a1) k
  have q32 : ∀ t, Steps p.tables e below (s₁.setTop (mkF m 1 #[.val (.ref a1)] [(.ref a1)])) t → Steps p.tables e below (s₁.setTop (entryFrame m #[(.ref a1)] 1)) t := fun t k => pre0 t (by
      show Steps p.tables e below (s₁.setTop (mkF m 0 #[.val (.ref a1)] [])) _
      refine XS.aloadN X0.here hx rfl (hb hby d5_0) rfl rfl ?_
      show Steps p.tables e below (s₁.setTop (mkF m 1 #[.val (.ref a1)] [(.ref a1)])) _
      exact k)
  obtain ⟨T33, X33, e33, st33⟩ := getF X0 hx hZ hown (host := "") (Or.inl (hw _ (List.mem_of_getElem? (i := 18) rfl))) Via.refl e0 (Fz) (g := (mkF m 1 #[.val (.ref a1)] [(.ref a1)])) rfl rfl (hb hby d5_1)
  have q34 : ∀ t, Steps p.tables e below (T33.setTop (mkF m 4 #[.val (.ref a1)] [(.int z1)])) t → Steps p.tables e below (s₁.setTop (entryFrame m #[(.ref a1)] 1)) t := fun t k => q32 t (st33 t k)
  obtain ⟨fs, hr, hrun, hended, hW, hsame⟩ := X33.leave (v := some (.int z1)) (fun h => by rw [Bd.returns] at h; cases h)
  refine ⟨_, _, q34 _ ?_, hrun, hended, _, _, rfl, ?_, ⟨_, rfl⟩, hW, hsame.mono (by decide) (by decide)⟩
  · show Steps p.tables e below (T33.setTop (mkF m 4 #[.val (.ref a1)] [(.int z1)])) _
    exact retI X33 hx Bd.returns (hb hby d5_4) hr
  · show QN z1 h0 n0 _ T33.heap _
    exact ⟨rfl, N0, e33⟩
theorem pn_com_example_demeter_demeter_engine_index_PostingsDocumentPinLaw : plainName "com/example/demeter/demeter/engine/index/PostingsDocumentPinLaw" = true := by first | (simp [plainName, overriddenIn]; done) | decide +kernel
theorem ef_6 (m : MethodId) (p1 : Int32) (p2 : Int32) (p3 : Int32) (p4 : Int32) (p5 : Int32) : entryFrame m #[(.int p1), (.int p2), (.int p3), (.int p4), (.int p5)] 5 = mkF m 0 #[.val (.int p1), .val (.int p2), .val (.int p3), .val (.int p4), .val (.int p5)] [] := by first | (simp [entryFrame, mkF, argsToLocals, Value.category]; done) | rfl
theorem d6_0 : decode method_2_code 0 = .ok (.iload_n 0, 1) := by decide +kernel
theorem d6_1 : decode method_2_code 1 = .ok (.ifCond .ne 5, 3) := by decide +kernel
theorem d6_4 : decode method_2_code 4 = .ok (.iload_n 1, 1) := by decide +kernel
theorem d6_5 : decode method_2_code 5 = .ok (.ireturn, 1) := by decide +kernel
theorem d6_6 : decode method_2_code 6 = .ok (.iload_n 0, 1) := by decide +kernel
theorem d6_7 : decode method_2_code 7 = .ok (.iconst 1, 1) := by decide +kernel
theorem d6_8 : decode method_2_code 8 = .ok (.if_icmp .ne 5, 3) := by decide +kernel
theorem d6_11 : decode method_2_code 11 = .ok (.iload_n 2, 1) := by decide +kernel
theorem d6_12 : decode method_2_code 12 = .ok (.ireturn, 1) := by decide +kernel
theorem d6_13 : decode method_2_code 13 = .ok (.iload_n 0, 1) := by decide +kernel
theorem d6_14 : decode method_2_code 14 = .ok (.iconst 2, 1) := by decide +kernel
theorem d6_15 : decode method_2_code 15 = .ok (.if_icmp .ne 5, 3) := by decide +kernel
theorem d6_18 : decode method_2_code 18 = .ok (.iload_n 3, 1) := by decide +kernel
theorem d6_19 : decode method_2_code 19 = .ok (.ireturn, 1) := by decide +kernel
theorem d6_20 : decode method_2_code 20 = .ok (.iload 4, 2) := by decide +kernel
theorem d6_22 : decode method_2_code 22 = .ok (.ireturn, 1) := by decide +kernel
def own_pick (p1 : Int32) (p2 : Int32) (p3 : Int32) (p4 : Int32) (p5 : Int32) : Int32 := if p1 = (0 : Int32) then p2 else if p1 = (1 : Int32) then p3 else if p1 = (2 : Int32) then p4 else p5
set_option maxRecDepth 65536 in
set_option maxHeartbeats 40000000 in
theorem rm6 (l : Launch) (Z : State) (a0 : Array Value) (hw : ∀ d ∈ tables_1, d.before a0 Z = true) (ws : List Jvm.Cond) (p1 : Int32) (p2 : Int32) (p3 : Int32) (p4 : Int32) (p5 : Int32) (h0 : Heap) (n0 : Nat) (Z0 : n0 ≤ h0.size) :
    MetFree l (⟨"com/example/demeter/demeter/engine/index/PostingsDocumentPinLaw", "pick", "(IIIII)I"⟩ : MethodName) (head1 (Jvm.Cond.code (⟨"com/example/demeter/demeter/engine/index/PostingsDocumentPinLaw", "pick", "(IIIII)I"⟩ : MethodName) method_2_code 5 (some .int) :: ws) ({ frames := 0, cells := 0, slots := 0, locals := 0 } : Room)) (fun a U => a = #[(.int p1), (.int p2), (.int p3), (.int p4), (.int p5)] ∧ Z.Warmed39 U.vm ∧ U.heap = h0) (fun _ _ _ _ _ => True) (fun _ U o U' => ∃ v L, o = .returned v ∧ QN (own_pick p1 p2 p3 p4 p5) h0 n0 v U'.heap L ∧ FrameEnd U o U' L ({ frames := 0, cells := 0, slots := 0, locals := 0 } : Room).cells ({ frames := 0, cells := 0, slots := 0, locals := 0 } : Room).slots) := by
  refine MetFree.of_bodySF (plainFor_of_name pn_com_example_demeter_demeter_engine_index_PostingsDocumentPinLaw) hisR ?_
  intro p e s m args below meth c s₁ Bd hml0 hP hK
  obtain ⟨rfl, hZ, hh⟩ := hP
  have hx := Bd.exec
  have hby := Bd.bytes
  have hml : c.maxLocals = 5 := hml0
  have hown : s.vm.findClass "com/example/demeter/demeter/engine/index/PostingsDocumentPinLaw" = some m.cls := findClass_of_methodNamed Bd.named
  have hnm := (name_of_methodNamed Bd.named Bd.method).1
  have X0 : Stand p l e ({ frames := 0, cells := 0, slots := 0, locals := 0 } : Room) s m #[(.int p1), (.int p2), (.int p3), (.int p4), (.int p5)] below meth c s₁ [] 0 0 := Stand.of_body Bd
  have e0 : s₁.heap = h0 := by rw [← hh, Bd.state]; rfl
  have N0 := Fr.nil n0
  have pre0 : ∀ t, Steps p.tables e below (s₁.setTop (mkF m 0 #[.val (.int p1), .val (.int p2), .val (.int p3), .val (.int p4), .val (.int p5)] [])) t → Steps p.tables e below (s₁.setTop (entryFrame m #[(.int p1), (.int p2), (.int p3), (.int p4), (.int p5)] 5)) t := fun t k => castTop (ef_6 m p1 p2 p3 p4 p5) k
  have q35 : ∀ t, Steps p.tables e below (s₁.setTop (mkF m 1 #[.val (.int p1), .val (.int p2), .val (.int p3), .val (.int p4), .val (.int p5)] [(.int p1)])) t → Steps p.tables e below (s₁.setTop (entryFrame m #[(.int p1), (.int p2), (.int p3), (.int p4), (.int p5)] 5)) t := fun t k => pre0 t (by
      show Steps p.tables e below (s₁.setTop (mkF m 0 #[.val (.int p1), .val (.int p2), .val (.int p3), .val (.int p4), .val (.int p5)] [])) _
      refine XS.iloadN X0.here hx rfl (hb hby d6_0) rfl ?_
      show Steps p.tables e below (s₁.setTop (mkF m 1 #[.val (.int p1), .val (.int p2), .val (.int p3), .val (.int p4), .val (.int p5)] [(.int p1)])) _
      exact k)
  by_cases k36 : p1 = (0 : Int32)
  · skip
    have q37 : ∀ t, Steps p.tables e below (s₁.setTop (mkF m 5 #[.val (.int p1), .val (.int p2), .val (.int p3), .val (.int p4), .val (.int p5)] [(.int p2)])) t → Steps p.tables e below (s₁.setTop (entryFrame m #[(.int p1), (.int p2), (.int p3), (.int p4), (.int p5)] 5)) t := fun t k => q35 t (by
        show Steps p.tables e below (s₁.setTop (mkF m 1 #[.val (.int p1), .val (.int p2), .val (.int p3), .val (.int p4), .val (.int p5)] [(.int p1)])) _
        refine XS.ifNo X0.here hx rfl (hb hby d6_1) rfl (XT.i0_ne_f (k36 : p1 = (0 : Int32))) ?_
        show Steps p.tables e below (s₁.setTop (mkF m 4 #[.val (.int p1), .val (.int p2), .val (.int p3), .val (.int p4), .val (.int p5)] [])) _
        refine XS.iloadN X0.here hx rfl (hb hby d6_4) rfl ?_
        show Steps p.tables e below (s₁.setTop (mkF m 5 #[.val (.int p1), .val (.int p2), .val (.int p3), .val (.int p4), .val (.int p5)] [(.int p2)])) _
        exact k)
    obtain ⟨fs, hr, hrun, hended, hW, hsame⟩ := X0.leave (v := some (.int p2)) (fun h => by rw [Bd.returns] at h; cases h)
    refine ⟨_, _, q37 _ ?_, hrun, hended, _, _, rfl, ?_, ⟨_, rfl⟩, hW, hsame.mono (by decide) (by decide)⟩
    · show Steps p.tables e below (s₁.setTop (mkF m 5 #[.val (.int p1), .val (.int p2), .val (.int p3), .val (.int p4), .val (.int p5)] [(.int p2)])) _
      exact retI X0 hx Bd.returns (hb hby d6_5) hr
    · show QN (own_pick p1 p2 p3 p4 p5) h0 n0 _ s₁.heap _
      exact ⟨by unfold own_pick; rw [if_pos k36], N0, e0⟩
  · skip
    have q38 : ∀ t, Steps p.tables e below (s₁.setTop (mkF m 8 #[.val (.int p1), .val (.int p2), .val (.int p3), .val (.int p4), .val (.int p5)] [(.int (1 : Int32)), (.int p1)])) t → Steps p.tables e below (s₁.setTop (entryFrame m #[(.int p1), (.int p2), (.int p3), (.int p4), (.int p5)] 5)) t := fun t k => q35 t (by
        show Steps p.tables e below (s₁.setTop (mkF m 1 #[.val (.int p1), .val (.int p2), .val (.int p3), .val (.int p4), .val (.int p5)] [(.int p1)])) _
        refine XS.ifYes X0.here hx rfl (pc0 := 1) (pc' := 6) rfl (hb hby d6_1) rfl (XT.i0_ne_t (k36 : ¬ (p1 = (0 : Int32)))) (by decide) (by decide) ?_
        show Steps p.tables e below (s₁.setTop (mkF m 6 #[.val (.int p1), .val (.int p2), .val (.int p3), .val (.int p4), .val (.int p5)] [])) _
        refine XS.iloadN X0.here hx rfl (hb hby d6_6) rfl ?_
        show Steps p.tables e below (s₁.setTop (mkF m 7 #[.val (.int p1), .val (.int p2), .val (.int p3), .val (.int p4), .val (.int p5)] [(.int p1)])) _
        refine XS.iconst X0.here hx rfl (hb hby d6_7) ?_
        show Steps p.tables e below (s₁.setTop (mkF m 8 #[.val (.int p1), .val (.int p2), .val (.int p3), .val (.int p4), .val (.int p5)] [(.int (1 : Int32)), (.int p1)])) _
        exact k)
    by_cases k39 : p1 = (1 : Int32)
    · skip
      have q40 : ∀ t, Steps p.tables e below (s₁.setTop (mkF m 12 #[.val (.int p1), .val (.int p2), .val (.int p3), .val (.int p4), .val (.int p5)] [(.int p3)])) t → Steps p.tables e below (s₁.setTop (entryFrame m #[(.int p1), (.int p2), (.int p3), (.int p4), (.int p5)] 5)) t := fun t k => q38 t (by
          show Steps p.tables e below (s₁.setTop (mkF m 8 #[.val (.int p1), .val (.int p2), .val (.int p3), .val (.int p4), .val (.int p5)] [(.int (1 : Int32)), (.int p1)])) _
          refine XS.icmpNo X0.here hx rfl (hb hby d6_8) rfl (XT.ii_ne_f (k39 : p1 = (1 : Int32))) ?_
          show Steps p.tables e below (s₁.setTop (mkF m 11 #[.val (.int p1), .val (.int p2), .val (.int p3), .val (.int p4), .val (.int p5)] [])) _
          refine XS.iloadN X0.here hx rfl (hb hby d6_11) rfl ?_
          show Steps p.tables e below (s₁.setTop (mkF m 12 #[.val (.int p1), .val (.int p2), .val (.int p3), .val (.int p4), .val (.int p5)] [(.int p3)])) _
          exact k)
      obtain ⟨fs, hr, hrun, hended, hW, hsame⟩ := X0.leave (v := some (.int p3)) (fun h => by rw [Bd.returns] at h; cases h)
      refine ⟨_, _, q40 _ ?_, hrun, hended, _, _, rfl, ?_, ⟨_, rfl⟩, hW, hsame.mono (by decide) (by decide)⟩
      · show Steps p.tables e below (s₁.setTop (mkF m 12 #[.val (.int p1), .val (.int p2), .val (.int p3), .val (.int p4), .val (.int p5)] [(.int p3)])) _
        exact retI X0 hx Bd.returns (hb hby d6_12) hr
      · show QN (own_pick p1 p2 p3 p4 p5) h0 n0 _ s₁.heap _
        exact ⟨by unfold own_pick; rw [if_neg k36, if_pos k39], N0, e0⟩
    · skip
      have q41 : ∀ t, Steps p.tables e below (s₁.setTop (mkF m 15 #[.val (.int p1), .val (.int p2), .val (.int p3), .val (.int p4), .val (.int p5)] [(.int (2 : Int32)), (.int p1)])) t → Steps p.tables e below (s₁.setTop (entryFrame m #[(.int p1), (.int p2), (.int p3), (.int p4), (.int p5)] 5)) t := fun t k => q38 t (by
          show Steps p.tables e below (s₁.setTop (mkF m 8 #[.val (.int p1), .val (.int p2), .val (.int p3), .val (.int p4), .val (.int p5)] [(.int (1 : Int32)), (.int p1)])) _
          refine XS.icmpYes X0.here hx rfl (pc0 := 8) (pc' := 13) rfl (hb hby d6_8) rfl (XT.ii_ne_t (k39 : ¬ (p1 = (1 : Int32)))) (by decide) (by decide) ?_
          show Steps p.tables e below (s₁.setTop (mkF m 13 #[.val (.int p1), .val (.int p2), .val (.int p3), .val (.int p4), .val (.int p5)] [])) _
          refine XS.iloadN X0.here hx rfl (hb hby d6_13) rfl ?_
          show Steps p.tables e below (s₁.setTop (mkF m 14 #[.val (.int p1), .val (.int p2), .val (.int p3), .val (.int p4), .val (.int p5)] [(.int p1)])) _
          refine XS.iconst X0.here hx rfl (hb hby d6_14) ?_
          show Steps p.tables e below (s₁.setTop (mkF m 15 #[.val (.int p1), .val (.int p2), .val (.int p3), .val (.int p4), .val (.int p5)] [(.int (2 : Int32)), (.int p1)])) _
          exact k)
      by_cases k42 : p1 = (2 : Int32)
      · skip
        have q43 : ∀ t, Steps p.tables e below (s₁.setTop (mkF m 19 #[.val (.int p1), .val (.int p2), .val (.int p3), .val (.int p4), .val (.int p5)] [(.int p4)])) t → Steps p.tables e below (s₁.setTop (entryFrame m #[(.int p1), (.int p2), (.int p3), (.int p4), (.int p5)] 5)) t := fun t k => q41 t (by
            show Steps p.tables e below (s₁.setTop (mkF m 15 #[.val (.int p1), .val (.int p2), .val (.int p3), .val (.int p4), .val (.int p5)] [(.int (2 : Int32)), (.int p1)])) _
            refine XS.icmpNo X0.here hx rfl (hb hby d6_15) rfl (XT.ii_ne_f (k42 : p1 = (2 : Int32))) ?_
            show Steps p.tables e below (s₁.setTop (mkF m 18 #[.val (.int p1), .val (.int p2), .val (.int p3), .val (.int p4), .val (.int p5)] [])) _
            refine XS.iloadN X0.here hx rfl (hb hby d6_18) rfl ?_
            show Steps p.tables e below (s₁.setTop (mkF m 19 #[.val (.int p1), .val (.int p2), .val (.int p3), .val (.int p4), .val (.int p5)] [(.int p4)])) _
            exact k)
        obtain ⟨fs, hr, hrun, hended, hW, hsame⟩ := X0.leave (v := some (.int p4)) (fun h => by rw [Bd.returns] at h; cases h)
        refine ⟨_, _, q43 _ ?_, hrun, hended, _, _, rfl, ?_, ⟨_, rfl⟩, hW, hsame.mono (by decide) (by decide)⟩
        · show Steps p.tables e below (s₁.setTop (mkF m 19 #[.val (.int p1), .val (.int p2), .val (.int p3), .val (.int p4), .val (.int p5)] [(.int p4)])) _
          exact retI X0 hx Bd.returns (hb hby d6_19) hr
        · show QN (own_pick p1 p2 p3 p4 p5) h0 n0 _ s₁.heap _
          exact ⟨by unfold own_pick; rw [if_neg k36, if_neg k39, if_pos k42], N0, e0⟩
      · skip
        have q44 : ∀ t, Steps p.tables e below (s₁.setTop (mkF m 22 #[.val (.int p1), .val (.int p2), .val (.int p3), .val (.int p4), .val (.int p5)] [(.int p5)])) t → Steps p.tables e below (s₁.setTop (entryFrame m #[(.int p1), (.int p2), (.int p3), (.int p4), (.int p5)] 5)) t := fun t k => q41 t (by
            show Steps p.tables e below (s₁.setTop (mkF m 15 #[.val (.int p1), .val (.int p2), .val (.int p3), .val (.int p4), .val (.int p5)] [(.int (2 : Int32)), (.int p1)])) _
            refine XS.icmpYes X0.here hx rfl (pc0 := 15) (pc' := 20) rfl (hb hby d6_15) rfl (XT.ii_ne_t (k42 : ¬ (p1 = (2 : Int32)))) (by decide) (by decide) ?_
            show Steps p.tables e below (s₁.setTop (mkF m 20 #[.val (.int p1), .val (.int p2), .val (.int p3), .val (.int p4), .val (.int p5)] [])) _
            refine XS.iload X0.here hx rfl (hb hby d6_20) rfl ?_
            show Steps p.tables e below (s₁.setTop (mkF m 22 #[.val (.int p1), .val (.int p2), .val (.int p3), .val (.int p4), .val (.int p5)] [(.int p5)])) _
            exact k)
        obtain ⟨fs, hr, hrun, hended, hW, hsame⟩ := X0.leave (v := some (.int p5)) (fun h => by rw [Bd.returns] at h; cases h)
        refine ⟨_, _, q44 _ ?_, hrun, hended, _, _, rfl, ?_, ⟨_, rfl⟩, hW, hsame.mono (by decide) (by decide)⟩
        · show Steps p.tables e below (s₁.setTop (mkF m 22 #[.val (.int p1), .val (.int p2), .val (.int p3), .val (.int p4), .val (.int p5)] [(.int p5)])) _
          exact retI X0 hx Bd.returns (hb hby d6_22) hr
        · show QN (own_pick p1 p2 p3 p4 p5) h0 n0 _ s₁.heap _
          exact ⟨by unfold own_pick; rw [if_neg k36, if_neg k39, if_neg k42], N0, e0⟩
theorem own_at (a b c d k : Int32) (h0 : 0 ≤ k.toInt) (h3 : k.toInt ≤ 3) : (fun i => if i = (3 : Int32).toNatClampNeg then d else (fun i => if i = (2 : Int32).toNatClampNeg then c else (fun i => if i = (1 : Int32).toNatClampNeg then b else (fun i => if i = (0 : Int32).toNatClampNeg then a else (fun _ => (0 : Int32)) i) i) i) i) k.toNatClampNeg = own_pick k a b c d := by
  have h : k.toInt = 0 ∨ k.toInt = 1 ∨ k.toInt = 2 ∨ k.toInt = 3 := by omega
  rcases h with h | h | h | h
  · obtain rfl : k = 0 := own_eq (h.trans rfl)
    rfl
  · obtain rfl : k = 1 := own_eq (h.trans rfl)
    rfl
  · obtain rfl : k = 2 := own_eq (h.trans rfl)
    rfl
  · obtain rfl : k = 3 := own_eq (h.trans rfl)
    rfl
def own_st (p5 : Int32) : Int32 := (p5 &&& (3 : Int32))
def own_ln (p5 : Int32) : Int32 := ((1 : Int32) + ((((p5.toUInt32 >>> ((2 : Int32) &&& 31).toUInt32).toInt32) &&& (7 : Int32)) % ((4 : Int32) - (p5 &&& (3 : Int32)))))
theorem own_stb (p5 : Int32) : 0 ≤ (own_st p5).toInt ∧ (own_st p5).toInt ≤ 3 := by
  have q := c_and p5 (3 : Int32) (by decide)
  have l3 : (3 : Int32).toInt = 3 := rfl
  unfold own_st; omega
theorem own_four (p5 : Int32) : ((4 : Int32) - (p5 &&& (3 : Int32))).toInt = 4 - (own_st p5).toInt := by
  have q := own_stb p5
  have l4 : (4 : Int32).toInt = 4 := rfl
  have q1 := c_isub (4 : Int32) (own_st p5)
  have q2 := rng32 ((4 : Int32) - own_st p5)
  show ((4 : Int32) - own_st p5).toInt = _
  omega
theorem own_lnb (p5 : Int32) : 1 ≤ (own_ln p5).toInt ∧ (own_ln p5).toInt ≤ 4 - (own_st p5).toInt := by
  have q := own_stb p5
  have q4 := own_four p5
  have l7 : (7 : Int32).toInt = 7 := rfl
  have l1 : (1 : Int32).toInt = 1 := rfl
  have q7 := c_and ((p5.toUInt32 >>> ((2 : Int32) &&& 31).toUInt32).toInt32) (7 : Int32) (by decide)
  have qr := (c_iremV ((((p5.toUInt32 >>> ((2 : Int32) &&& 31).toUInt32).toInt32) &&& (7 : Int32))) ((4 : Int32) - (p5 &&& (3 : Int32)))).1 (by omega) (by omega)
  have qa := c_iadd (1 : Int32) ((((p5.toUInt32 >>> ((2 : Int32) &&& 31).toUInt32).toInt32) &&& (7 : Int32)) % ((4 : Int32) - (p5 &&& (3 : Int32))))
  have qb := rng32 (own_ln p5)
  unfold own_ln at *
  omega
def QL (n0 : Nat) (v : Option Value) (h : Heap) (L : List Loc) : Prop := v = some (.int (1 : Int32)) ∧ Fr n0 L
theorem ef_0 (m : MethodId) (p1 : Int32) (p2 : Int32) (p3 : Int32) (p4 : Int32) (p5 : Int32) (p6 : Int32) : entryFrame m #[(.int p1), (.int p2), (.int p3), (.int p4), (.int p5), (.int p6)] maxLocals = mkF m 0 #[.val (.int p1), .val (.int p2), .val (.int p3), .val (.int p4), .val (.int p5), .val (.int p6), .unset, .unset, .unset, .unset, .unset, .unset, .unset, .unset, .unset] [] := by first | (simp [entryFrame, mkF, argsToLocals, Value.category, maxLocals]; done) | rfl
theorem pd___I_DII_V : parseMethodDescriptor "([I[DII)V" = some ⟨[(.array .int), (.array .double), .int, .int], none⟩ := by decide +kernel
theorem pd__I_I : parseMethodDescriptor "(I)I" = some ⟨[.int], some .int⟩ := by decide +kernel
theorem pd__IIIII_I : parseMethodDescriptor "(IIIII)I" = some ⟨[.int, .int, .int, .int, .int], some .int⟩ := by decide +kernel
theorem pd___I : parseMethodDescriptor "()I" = some ⟨[], some .int⟩ := by decide +kernel
set_option maxRecDepth 65536 in
set_option maxHeartbeats 40000000 in
theorem rm0 (l : Launch) (Z : State) (a0 : Array Value) (hw : ∀ d ∈ tables_1, d.before a0 Z = true) (ws : List Jvm.Cond) (p1 : Int32) (p2 : Int32) (p3 : Int32) (p4 : Int32) (p5 : Int32) (p6 : Int32) (h0 : Heap) (n0 : Nat) (Z0 : n0 ≤ h0.size) :
    MetFree l x (head1 (Jvm.Cond.code x code maxLocals ret :: ws) room_1) (fun a U => a = #[(.int p1), (.int p2), (.int p3), (.int p4), (.int p5), (.int p6)] ∧ Z.Warmed39 U.vm ∧ U.heap = h0) (fun _ _ _ _ _ => True) (fun _ U o U' => ∃ v L, o = .returned v ∧ QL n0 v U'.heap L ∧ FrameEnd U o U' L room_1.cells room_1.slots) := by
  refine MetFree.of_bodySF (plainFor_of_name pn_com_example_demeter_demeter_engine_index_PostingsDocumentPinLaw) hisR ?_
  intro p e s m args below meth c s₁ Bd hml0 hP hK
  obtain ⟨rfl, hZ, hh⟩ := hP
  have hx := Bd.exec
  have hby := Bd.bytes
  have hml : c.maxLocals = 15 := hml0
  have hown : s.vm.findClass "com/example/demeter/demeter/engine/index/PostingsDocumentPinLaw" = some m.cls := findClass_of_methodNamed Bd.named
  have hnm := (name_of_methodNamed Bd.named Bd.method).1
  have X0 : Stand p l e room_1 s m #[(.int p1), (.int p2), (.int p3), (.int p4), (.int p5), (.int p6)] below meth c s₁ [] 0 0 := Stand.of_body Bd
  have e0 : s₁.heap = h0 := by rw [← hh, Bd.state]; rfl
  have N0 := Fr.nil n0
  have pre0 : ∀ t, Steps p.tables e below (s₁.setTop (mkF m 0 #[.val (.int p1), .val (.int p2), .val (.int p3), .val (.int p4), .val (.int p5), .val (.int p6), .unset, .unset, .unset, .unset, .unset, .unset, .unset, .unset, .unset] [])) t → Steps p.tables e below (s₁.setTop (entryFrame m #[(.int p1), (.int p2), (.int p3), (.int p4), (.int p5), (.int p6)] maxLocals)) t := fun t k => castTop (ef_0 m p1 p2 p3 p4 p5 p6) k
  have lit_0 : (0 : Int32).toInt = 0 := rfl
  have lit_4 : (4 : Int32).toInt = 4 := rfl
  have lit_7f : (2147483647 : Int32).toInt = 2147483647 := rfl
  obtain ⟨ST, eS⟩ : ∃ z, z = (p5 &&& (3 : Int32)) := ⟨_, rfl⟩
  obtain ⟨LN, eL⟩ : ∃ z, z = ((1 : Int32) + ((((p5.toUInt32 >>> ((2 : Int32) &&& 31).toUInt32).toInt32) &&& (7 : Int32)) % ((4 : Int32) - (p5 &&& (3 : Int32))))) := ⟨_, rfl⟩
  obtain ⟨IX, eX⟩ : ∃ z, z = ((p6 &&& (2147483647 : Int32)) % LN) := ⟨_, rfl⟩
  have hS : 0 ≤ ST.toInt ∧ ST.toInt ≤ 3 := by rw [eS]; exact own_stb p5
  have hL : 1 ≤ LN.toInt ∧ LN.toInt ≤ 4 - ST.toInt := by rw [eS, eL]; exact own_lnb p5
  have h4ne : ((4 : Int32) - (p5 &&& (3 : Int32))) ≠ 0 := own_ne (by have q := own_four p5; have q2 := own_stb p5; omega)
  have hlne : LN ≠ 0 := own_ne (by omega)
  have hX : 0 ≤ IX.toInt ∧ IX.toInt < LN.toInt := by rw [eX]; have q := c_and p6 (2147483647 : Int32) (by omega); have q2 := (c_iremV (p6 &&& (2147483647 : Int32)) LN).1 (by omega) (by omega); omega
  have hxl : ¬ IX < (0 : Int32) := own_nlt (by omega)
  have hxh : IX < LN := own_lt (by omega)
  have hsi : (ST + IX).toInt = ST.toInt + IX.toInt := by have q1 := c_iadd ST IX; have q2 := rng32 (ST + IX); omega
  have hzs : (ST + LN) - ST = LN := own_eq (by have q1 := c_iadd ST LN; have q2 := rng32 (ST + LN); have q3 := c_isub (ST + LN) ST; have q4 := rng32 ((ST + LN) - ST); omega)
  have q45 : ∀ t, Steps p.tables e below (s₁.setTop (mkF m 1 #[.val (.int p1), .val (.int p2), .val (.int p3), .val (.int p4), .val (.int p5), .val (.int p6), .unset, .unset, .unset, .unset, .unset, .unset, .unset, .unset, .unset] [(.int (4 : Int32))])) t → Steps p.tables e below (s₁.setTop (entryFrame m #[(.int p1), (.int p2), (.int p3), (.int p4), (.int p5), (.int p6)] maxLocals)) t := fun t k => pre0 t (by
      show Steps p.tables e below (s₁.setTop (mkF m 0 #[.val (.int p1), .val (.int p2), .val (.int p3), .val (.int p4), .val (.int p5), .val (.int p6), .unset, .unset, .unset, .unset, .unset, .unset, .unset, .unset, .unset] [])) _
      refine XS.iconst X0.here hx rfl (hb hby at_0) ?_
      show Steps p.tables e below (s₁.setTop (mkF m 1 #[.val (.int p1), .val (.int p2), .val (.int p3), .val (.int p4), .val (.int p5), .val (.int p6), .unset, .unset, .unset, .unset, .unset, .unset, .unset, .unset, .unset] [(.int (4 : Int32))])) _
      exact k)
  obtain ⟨T46, h46, k46, X46, e46, E46, A46, st46⟩ := newP X0 hx hZ (hw _ (List.mem_of_getElem? (i := 0) rfl)) e0 (g := (mkF m 1 #[.val (.int p1), .val (.int p2), .val (.int p3), .val (.int p4), .val (.int p5), .val (.int p6), .unset, .unset, .unset, .unset, .unset, .unset, .unset, .unset, .unset] [(.int (4 : Int32))])) rfl (hb hby at_1) rfl (by decide) (cap := 4) (by decide) (by decide) (by decide) (by decide)
  obtain ⟨b46, g46⟩ : ∃ z, z = h0.size := ⟨_, rfl⟩
  rw [← g46] at A46 st46
  have q47 : ∀ t, Steps p.tables e below (T46.setTop (mkF m 3 #[.val (.int p1), .val (.int p2), .val (.int p3), .val (.int p4), .val (.int p5), .val (.int p6), .unset, .unset, .unset, .unset, .unset, .unset, .unset, .unset, .unset] [(.ref b46)])) t → Steps p.tables e below (s₁.setTop (entryFrame m #[(.int p1), (.int p2), (.int p3), (.int p4), (.int p5), (.int p6)] maxLocals)) t := fun t k => q45 t (st46 t k)
  have Z46 : n0 ≤ h46.size := Nat.le_trans Z0 E46.1
  have g_b : n0 ≤ b46 := Nat.le_trans Z0 (Nat.le_of_eq g46.symm)
  have B0 : It Z h46 b46 (4 : Int32) (fun _ => 0) := It.new A46 (by decide)
  obtain ⟨cl_0, Ar_0, S_0, M_0, H_0⟩ := B0
  have q48 : ∀ t, Steps p.tables e below (T46.setTop (mkF m 9 #[.val (.int p1), .val (.int p2), .val (.int p3), .val (.int p4), .val (.int p5), .val (.int p6), .val (.ref b46), .unset, .unset, .unset, .unset, .unset, .unset, .unset, .unset] [(.int p1), (.int (0 : Int32)), (.ref b46)])) t → Steps p.tables e below (s₁.setTop (entryFrame m #[(.int p1), (.int p2), (.int p3), (.int p4), (.int p5), (.int p6)] maxLocals)) t := fun t k => q47 t (by
      show Steps p.tables e below (T46.setTop (mkF m 3 #[.val (.int p1), .val (.int p2), .val (.int p3), .val (.int p4), .val (.int p5), .val (.int p6), .unset, .unset, .unset, .unset, .unset, .unset, .unset, .unset, .unset] [(.ref b46)])) _
      refine XS.astore X46.here hx rfl (hb hby at_3) rfl rfl (l' := #[.val (.int p1), .val (.int p2), .val (.int p3), .val (.int p4), .val (.int p5), .val (.int p6), .val (.ref b46), .unset, .unset, .unset, .unset, .unset, .unset, .unset, .unset]) rfl ?_
      show Steps p.tables e below (T46.setTop (mkF m 5 #[.val (.int p1), .val (.int p2), .val (.int p3), .val (.int p4), .val (.int p5), .val (.int p6), .val (.ref b46), .unset, .unset, .unset, .unset, .unset, .unset, .unset, .unset] [])) _
      refine XS.aload X46.here hx rfl (hb hby at_5) rfl rfl ?_
      show Steps p.tables e below (T46.setTop (mkF m 7 #[.val (.int p1), .val (.int p2), .val (.int p3), .val (.int p4), .val (.int p5), .val (.int p6), .val (.ref b46), .unset, .unset, .unset, .unset, .unset, .unset, .unset, .unset] [(.ref b46)])) _
      refine XS.iconst X46.here hx rfl (hb hby at_7) ?_
      show Steps p.tables e below (T46.setTop (mkF m 8 #[.val (.int p1), .val (.int p2), .val (.int p3), .val (.int p4), .val (.int p5), .val (.int p6), .val (.ref b46), .unset, .unset, .unset, .unset, .unset, .unset, .unset, .unset] [(.int (0 : Int32)), (.ref b46)])) _
      refine XS.iloadN X46.here hx rfl (hb hby at_8) rfl ?_
      show Steps p.tables e below (T46.setTop (mkF m 9 #[.val (.int p1), .val (.int p2), .val (.int p3), .val (.int p4), .val (.int p5), .val (.int p6), .val (.ref b46), .unset, .unset, .unset, .unset, .unset, .unset, .unset, .unset] [(.int p1), (.int (0 : Int32)), (.ref b46)])) _
      exact k)
  obtain ⟨T49, h49, X49, e49, W49, st49⟩ := stI X46 hx hZ e46 (Ar_0) (j := (0 : Int32)) (inb_of S_0 ⟨by decide, by decide⟩) (g := (mkF m 9 #[.val (.int p1), .val (.int p2), .val (.int p3), .val (.int p4), .val (.int p5), .val (.int p6), .val (.ref b46), .unset, .unset, .unset, .unset, .unset, .unset, .unset, .unset] [(.int p1), (.int (0 : Int32)), (.ref b46)])) rfl rfl (hb hby at_9)
  have N49 := Fr.snoc X49 N0 (g_b)
  have q50 : ∀ t, Steps p.tables e below (T49.setTop (mkF m 10 #[.val (.int p1), .val (.int p2), .val (.int p3), .val (.int p4), .val (.int p5), .val (.int p6), .val (.ref b46), .unset, .unset, .unset, .unset, .unset, .unset, .unset, .unset] [])) t → Steps p.tables e below (s₁.setTop (entryFrame m #[(.int p1), (.int p2), (.int p3), (.int p4), (.int p5), (.int p6)] maxLocals)) t := fun t k => q48 t (st49 t k)
  have Z49 : n0 ≤ h49.size := Nat.le_trans Z46 (Keep.of_wr W49).1
  have B1 := It.set Ar_0 S_0 M_0 H_0 W49
  obtain ⟨cl_1, Ar_1, S_1, M_1, H_1⟩ := B1
  have q51 : ∀ t, Steps p.tables e below (T49.setTop (mkF m 14 #[.val (.int p1), .val (.int p2), .val (.int p3), .val (.int p4), .val (.int p5), .val (.int p6), .val (.ref b46), .unset, .unset, .unset, .unset, .unset, .unset, .unset, .unset] [(.int p2), (.int (1 : Int32)), (.ref b46)])) t → Steps p.tables e below (s₁.setTop (entryFrame m #[(.int p1), (.int p2), (.int p3), (.int p4), (.int p5), (.int p6)] maxLocals)) t := fun t k => q50 t (by
      show Steps p.tables e below (T49.setTop (mkF m 10 #[.val (.int p1), .val (.int p2), .val (.int p3), .val (.int p4), .val (.int p5), .val (.int p6), .val (.ref b46), .unset, .unset, .unset, .unset, .unset, .unset, .unset, .unset] [])) _
      refine XS.aload X49.here hx rfl (hb hby at_10) rfl rfl ?_
      show Steps p.tables e below (T49.setTop (mkF m 12 #[.val (.int p1), .val (.int p2), .val (.int p3), .val (.int p4), .val (.int p5), .val (.int p6), .val (.ref b46), .unset, .unset, .unset, .unset, .unset, .unset, .unset, .unset] [(.ref b46)])) _
      refine XS.iconst X49.here hx rfl (hb hby at_12) ?_
      show Steps p.tables e below (T49.setTop (mkF m 13 #[.val (.int p1), .val (.int p2), .val (.int p3), .val (.int p4), .val (.int p5), .val (.int p6), .val (.ref b46), .unset, .unset, .unset, .unset, .unset, .unset, .unset, .unset] [(.int (1 : Int32)), (.ref b46)])) _
      refine XS.iloadN X49.here hx rfl (hb hby at_13) rfl ?_
      show Steps p.tables e below (T49.setTop (mkF m 14 #[.val (.int p1), .val (.int p2), .val (.int p3), .val (.int p4), .val (.int p5), .val (.int p6), .val (.ref b46), .unset, .unset, .unset, .unset, .unset, .unset, .unset, .unset] [(.int p2), (.int (1 : Int32)), (.ref b46)])) _
      exact k)
  obtain ⟨T52, h52, X52, e52, W52, st52⟩ := stI X49 hx hZ e49 (Ar_1) (j := (1 : Int32)) (inb_of S_1 ⟨by decide, by decide⟩) (g := (mkF m 14 #[.val (.int p1), .val (.int p2), .val (.int p3), .val (.int p4), .val (.int p5), .val (.int p6), .val (.ref b46), .unset, .unset, .unset, .unset, .unset, .unset, .unset, .unset] [(.int p2), (.int (1 : Int32)), (.ref b46)])) rfl rfl (hb hby at_14)
  have N52 := Fr.snoc X52 N49 (g_b)
  have q53 : ∀ t, Steps p.tables e below (T52.setTop (mkF m 15 #[.val (.int p1), .val (.int p2), .val (.int p3), .val (.int p4), .val (.int p5), .val (.int p6), .val (.ref b46), .unset, .unset, .unset, .unset, .unset, .unset, .unset, .unset] [])) t → Steps p.tables e below (s₁.setTop (entryFrame m #[(.int p1), (.int p2), (.int p3), (.int p4), (.int p5), (.int p6)] maxLocals)) t := fun t k => q51 t (st52 t k)
  have Z52 : n0 ≤ h52.size := Nat.le_trans Z49 (Keep.of_wr W52).1
  have B2 := It.set Ar_1 S_1 M_1 H_1 W52
  obtain ⟨cl_2, Ar_2, S_2, M_2, H_2⟩ := B2
  have q54 : ∀ t, Steps p.tables e below (T52.setTop (mkF m 19 #[.val (.int p1), .val (.int p2), .val (.int p3), .val (.int p4), .val (.int p5), .val (.int p6), .val (.ref b46), .unset, .unset, .unset, .unset, .unset, .unset, .unset, .unset] [(.int p3), (.int (2 : Int32)), (.ref b46)])) t → Steps p.tables e below (s₁.setTop (entryFrame m #[(.int p1), (.int p2), (.int p3), (.int p4), (.int p5), (.int p6)] maxLocals)) t := fun t k => q53 t (by
      show Steps p.tables e below (T52.setTop (mkF m 15 #[.val (.int p1), .val (.int p2), .val (.int p3), .val (.int p4), .val (.int p5), .val (.int p6), .val (.ref b46), .unset, .unset, .unset, .unset, .unset, .unset, .unset, .unset] [])) _
      refine XS.aload X52.here hx rfl (hb hby at_15) rfl rfl ?_
      show Steps p.tables e below (T52.setTop (mkF m 17 #[.val (.int p1), .val (.int p2), .val (.int p3), .val (.int p4), .val (.int p5), .val (.int p6), .val (.ref b46), .unset, .unset, .unset, .unset, .unset, .unset, .unset, .unset] [(.ref b46)])) _
      refine XS.iconst X52.here hx rfl (hb hby at_17) ?_
      show Steps p.tables e below (T52.setTop (mkF m 18 #[.val (.int p1), .val (.int p2), .val (.int p3), .val (.int p4), .val (.int p5), .val (.int p6), .val (.ref b46), .unset, .unset, .unset, .unset, .unset, .unset, .unset, .unset] [(.int (2 : Int32)), (.ref b46)])) _
      refine XS.iloadN X52.here hx rfl (hb hby at_18) rfl ?_
      show Steps p.tables e below (T52.setTop (mkF m 19 #[.val (.int p1), .val (.int p2), .val (.int p3), .val (.int p4), .val (.int p5), .val (.int p6), .val (.ref b46), .unset, .unset, .unset, .unset, .unset, .unset, .unset, .unset] [(.int p3), (.int (2 : Int32)), (.ref b46)])) _
      exact k)
  obtain ⟨T55, h55, X55, e55, W55, st55⟩ := stI X52 hx hZ e52 (Ar_2) (j := (2 : Int32)) (inb_of S_2 ⟨by decide, by decide⟩) (g := (mkF m 19 #[.val (.int p1), .val (.int p2), .val (.int p3), .val (.int p4), .val (.int p5), .val (.int p6), .val (.ref b46), .unset, .unset, .unset, .unset, .unset, .unset, .unset, .unset] [(.int p3), (.int (2 : Int32)), (.ref b46)])) rfl rfl (hb hby at_19)
  have N55 := Fr.snoc X55 N52 (g_b)
  have q56 : ∀ t, Steps p.tables e below (T55.setTop (mkF m 20 #[.val (.int p1), .val (.int p2), .val (.int p3), .val (.int p4), .val (.int p5), .val (.int p6), .val (.ref b46), .unset, .unset, .unset, .unset, .unset, .unset, .unset, .unset] [])) t → Steps p.tables e below (s₁.setTop (entryFrame m #[(.int p1), (.int p2), (.int p3), (.int p4), (.int p5), (.int p6)] maxLocals)) t := fun t k => q54 t (st55 t k)
  have Z55 : n0 ≤ h55.size := Nat.le_trans Z52 (Keep.of_wr W55).1
  have B3 := It.set Ar_2 S_2 M_2 H_2 W55
  obtain ⟨cl_3, Ar_3, S_3, M_3, H_3⟩ := B3
  have q57 : ∀ t, Steps p.tables e below (T55.setTop (mkF m 24 #[.val (.int p1), .val (.int p2), .val (.int p3), .val (.int p4), .val (.int p5), .val (.int p6), .val (.ref b46), .unset, .unset, .unset, .unset, .unset, .unset, .unset, .unset] [(.int p4), (.int (3 : Int32)), (.ref b46)])) t → Steps p.tables e below (s₁.setTop (entryFrame m #[(.int p1), (.int p2), (.int p3), (.int p4), (.int p5), (.int p6)] maxLocals)) t := fun t k => q56 t (by
      show Steps p.tables e below (T55.setTop (mkF m 20 #[.val (.int p1), .val (.int p2), .val (.int p3), .val (.int p4), .val (.int p5), .val (.int p6), .val (.ref b46), .unset, .unset, .unset, .unset, .unset, .unset, .unset, .unset] [])) _
      refine XS.aload X55.here hx rfl (hb hby at_20) rfl rfl ?_
      show Steps p.tables e below (T55.setTop (mkF m 22 #[.val (.int p1), .val (.int p2), .val (.int p3), .val (.int p4), .val (.int p5), .val (.int p6), .val (.ref b46), .unset, .unset, .unset, .unset, .unset, .unset, .unset, .unset] [(.ref b46)])) _
      refine XS.iconst X55.here hx rfl (hb hby at_22) ?_
      show Steps p.tables e below (T55.setTop (mkF m 23 #[.val (.int p1), .val (.int p2), .val (.int p3), .val (.int p4), .val (.int p5), .val (.int p6), .val (.ref b46), .unset, .unset, .unset, .unset, .unset, .unset, .unset, .unset] [(.int (3 : Int32)), (.ref b46)])) _
      refine XS.iloadN X55.here hx rfl (hb hby at_23) rfl ?_
      show Steps p.tables e below (T55.setTop (mkF m 24 #[.val (.int p1), .val (.int p2), .val (.int p3), .val (.int p4), .val (.int p5), .val (.int p6), .val (.ref b46), .unset, .unset, .unset, .unset, .unset, .unset, .unset, .unset] [(.int p4), (.int (3 : Int32)), (.ref b46)])) _
      exact k)
  obtain ⟨T58, h58, X58, e58, W58, st58⟩ := stI X55 hx hZ e55 (Ar_3) (j := (3 : Int32)) (inb_of S_3 ⟨by decide, by decide⟩) (g := (mkF m 24 #[.val (.int p1), .val (.int p2), .val (.int p3), .val (.int p4), .val (.int p5), .val (.int p6), .val (.ref b46), .unset, .unset, .unset, .unset, .unset, .unset, .unset, .unset] [(.int p4), (.int (3 : Int32)), (.ref b46)])) rfl rfl (hb hby at_24)
  have N58 := Fr.snoc X58 N55 (g_b)
  have q59 : ∀ t, Steps p.tables e below (T58.setTop (mkF m 25 #[.val (.int p1), .val (.int p2), .val (.int p3), .val (.int p4), .val (.int p5), .val (.int p6), .val (.ref b46), .unset, .unset, .unset, .unset, .unset, .unset, .unset, .unset] [])) t → Steps p.tables e below (s₁.setTop (entryFrame m #[(.int p1), (.int p2), (.int p3), (.int p4), (.int p5), (.int p6)] maxLocals)) t := fun t k => q57 t (st58 t k)
  have Z58 : n0 ≤ h58.size := Nat.le_trans Z55 (Keep.of_wr W58).1
  have B4 := It.set Ar_3 S_3 M_3 H_3 W58
  have q60 : ∀ t, Steps p.tables e below (T58.setTop (mkF m 26 #[.val (.int p1), .val (.int p2), .val (.int p3), .val (.int p4), .val (.int p5), .val (.int p6), .val (.ref b46), .unset, .unset, .unset, .unset, .unset, .unset, .unset, .unset] [(.int (4 : Int32))])) t → Steps p.tables e below (s₁.setTop (entryFrame m #[(.int p1), (.int p2), (.int p3), (.int p4), (.int p5), (.int p6)] maxLocals)) t := fun t k => q59 t (by
      show Steps p.tables e below (T58.setTop (mkF m 25 #[.val (.int p1), .val (.int p2), .val (.int p3), .val (.int p4), .val (.int p5), .val (.int p6), .val (.ref b46), .unset, .unset, .unset, .unset, .unset, .unset, .unset, .unset] [])) _
      refine XS.iconst X58.here hx rfl (hb hby at_25) ?_
      show Steps p.tables e below (T58.setTop (mkF m 26 #[.val (.int p1), .val (.int p2), .val (.int p3), .val (.int p4), .val (.int p5), .val (.int p6), .val (.ref b46), .unset, .unset, .unset, .unset, .unset, .unset, .unset, .unset] [(.int (4 : Int32))])) _
      exact k)
  obtain ⟨T61, h61, k61, X61, e61, E61, A61, st61⟩ := newP X58 hx hZ (hw _ (List.mem_of_getElem? (i := 1) rfl)) e58 (g := (mkF m 26 #[.val (.int p1), .val (.int p2), .val (.int p3), .val (.int p4), .val (.int p5), .val (.int p6), .val (.ref b46), .unset, .unset, .unset, .unset, .unset, .unset, .unset, .unset] [(.int (4 : Int32))])) rfl (hb hby at_26) rfl (by decide) (cap := 4) (by decide) (by decide) (by decide) (by decide)
  obtain ⟨b61, g61⟩ : ∃ z, z = h58.size := ⟨_, rfl⟩
  rw [← g61] at A61 st61
  have q62 : ∀ t, Steps p.tables e below (T61.setTop (mkF m 28 #[.val (.int p1), .val (.int p2), .val (.int p3), .val (.int p4), .val (.int p5), .val (.int p6), .val (.ref b46), .unset, .unset, .unset, .unset, .unset, .unset, .unset, .unset] [(.ref b61)])) t → Steps p.tables e below (s₁.setTop (entryFrame m #[(.int p1), (.int p2), (.int p3), (.int p4), (.int p5), (.int p6)] maxLocals)) t := fun t k => q60 t (st61 t k)
  have Z61 : n0 ≤ h61.size := Nat.le_trans Z58 E61.1
  have B5 := B4.ext E61
  have q63 : ∀ t, Steps p.tables e below (T61.setTop (mkF m 52 #[.val (.int p1), .val (.int p2), .val (.int p3), .val (.int p4), .val (.int p5), .val (.int p6), .val (.ref b46), .val (.ref b61), .val (.int (p5 &&& (3 : Int32))), .val (.int ((1 : Int32) + ((((p5.toUInt32 >>> ((2 : Int32) &&& 31).toUInt32).toInt32) &&& (7 : Int32)) % ((4 : Int32) - (p5 &&& (3 : Int32)))))), .unset, .unset, .unset, .unset, .unset] [])) t → Steps p.tables e below (s₁.setTop (entryFrame m #[(.int p1), (.int p2), (.int p3), (.int p4), (.int p5), (.int p6)] maxLocals)) t := fun t k => q62 t (by
      show Steps p.tables e below (T61.setTop (mkF m 28 #[.val (.int p1), .val (.int p2), .val (.int p3), .val (.int p4), .val (.int p5), .val (.int p6), .val (.ref b46), .unset, .unset, .unset, .unset, .unset, .unset, .unset, .unset] [(.ref b61)])) _
      refine XS.astore X61.here hx rfl (hb hby at_28) rfl rfl (l' := #[.val (.int p1), .val (.int p2), .val (.int p3), .val (.int p4), .val (.int p5), .val (.int p6), .val (.ref b46), .val (.ref b61), .unset, .unset, .unset, .unset, .unset, .unset, .unset]) rfl ?_
      show Steps p.tables e below (T61.setTop (mkF m 30 #[.val (.int p1), .val (.int p2), .val (.int p3), .val (.int p4), .val (.int p5), .val (.int p6), .val (.ref b46), .val (.ref b61), .unset, .unset, .unset, .unset, .unset, .unset, .unset] [])) _
      refine XS.iload X61.here hx rfl (hb hby at_30) rfl ?_
      show Steps p.tables e below (T61.setTop (mkF m 32 #[.val (.int p1), .val (.int p2), .val (.int p3), .val (.int p4), .val (.int p5), .val (.int p6), .val (.ref b46), .val (.ref b61), .unset, .unset, .unset, .unset, .unset, .unset, .unset] [(.int p5)])) _
      refine XS.iconst X61.here hx rfl (hb hby at_32) ?_
      show Steps p.tables e below (T61.setTop (mkF m 33 #[.val (.int p1), .val (.int p2), .val (.int p3), .val (.int p4), .val (.int p5), .val (.int p6), .val (.ref b46), .val (.ref b61), .unset, .unset, .unset, .unset, .unset, .unset, .unset] [(.int (3 : Int32)), (.int p5)])) _
      refine XS.iand X61.here hx rfl (hb hby at_33) rfl ?_
      show Steps p.tables e below (T61.setTop (mkF m 34 #[.val (.int p1), .val (.int p2), .val (.int p3), .val (.int p4), .val (.int p5), .val (.int p6), .val (.ref b46), .val (.ref b61), .unset, .unset, .unset, .unset, .unset, .unset, .unset] [(.int (p5 &&& (3 : Int32)))])) _
      refine XS.istore X61.here hx rfl (hb hby at_34) rfl (l' := #[.val (.int p1), .val (.int p2), .val (.int p3), .val (.int p4), .val (.int p5), .val (.int p6), .val (.ref b46), .val (.ref b61), .val (.int (p5 &&& (3 : Int32))), .unset, .unset, .unset, .unset, .unset, .unset]) rfl ?_
      show Steps p.tables e below (T61.setTop (mkF m 36 #[.val (.int p1), .val (.int p2), .val (.int p3), .val (.int p4), .val (.int p5), .val (.int p6), .val (.ref b46), .val (.ref b61), .val (.int (p5 &&& (3 : Int32))), .unset, .unset, .unset, .unset, .unset, .unset] [])) _
      refine XS.iconst X61.here hx rfl (hb hby at_36) ?_
      show Steps p.tables e below (T61.setTop (mkF m 37 #[.val (.int p1), .val (.int p2), .val (.int p3), .val (.int p4), .val (.int p5), .val (.int p6), .val (.ref b46), .val (.ref b61), .val (.int (p5 &&& (3 : Int32))), .unset, .unset, .unset, .unset, .unset, .unset] [(.int (1 : Int32))])) _
      refine XS.iload X61.here hx rfl (hb hby at_37) rfl ?_
      show Steps p.tables e below (T61.setTop (mkF m 39 #[.val (.int p1), .val (.int p2), .val (.int p3), .val (.int p4), .val (.int p5), .val (.int p6), .val (.ref b46), .val (.ref b61), .val (.int (p5 &&& (3 : Int32))), .unset, .unset, .unset, .unset, .unset, .unset] [(.int p5), (.int (1 : Int32))])) _
      refine XS.iconst X61.here hx rfl (hb hby at_39) ?_
      show Steps p.tables e below (T61.setTop (mkF m 40 #[.val (.int p1), .val (.int p2), .val (.int p3), .val (.int p4), .val (.int p5), .val (.int p6), .val (.ref b46), .val (.ref b61), .val (.int (p5 &&& (3 : Int32))), .unset, .unset, .unset, .unset, .unset, .unset] [(.int (2 : Int32)), (.int p5), (.int (1 : Int32))])) _
      refine XS.iushr X61.here hx rfl (hb hby at_40) rfl ?_
      show Steps p.tables e below (T61.setTop (mkF m 41 #[.val (.int p1), .val (.int p2), .val (.int p3), .val (.int p4), .val (.int p5), .val (.int p6), .val (.ref b46), .val (.ref b61), .val (.int (p5 &&& (3 : Int32))), .unset, .unset, .unset, .unset, .unset, .unset] [(.int ((p5.toUInt32 >>> ((2 : Int32) &&& 31).toUInt32).toInt32)), (.int (1 : Int32))])) _
      refine XS.bipush X61.here hx rfl (hb hby at_41) ?_
      show Steps p.tables e below (T61.setTop (mkF m 43 #[.val (.int p1), .val (.int p2), .val (.int p3), .val (.int p4), .val (.int p5), .val (.int p6), .val (.ref b46), .val (.ref b61), .val (.int (p5 &&& (3 : Int32))), .unset, .unset, .unset, .unset, .unset, .unset] [(.int (7 : Int32)), (.int ((p5.toUInt32 >>> ((2 : Int32) &&& 31).toUInt32).toInt32)), (.int (1 : Int32))])) _
      refine XS.iand X61.here hx rfl (hb hby at_43) rfl ?_
      show Steps p.tables e below (T61.setTop (mkF m 44 #[.val (.int p1), .val (.int p2), .val (.int p3), .val (.int p4), .val (.int p5), .val (.int p6), .val (.ref b46), .val (.ref b61), .val (.int (p5 &&& (3 : Int32))), .unset, .unset, .unset, .unset, .unset, .unset] [(.int (((p5.toUInt32 >>> ((2 : Int32) &&& 31).toUInt32).toInt32) &&& (7 : Int32))), (.int (1 : Int32))])) _
      refine XS.iconst X61.here hx rfl (hb hby at_44) ?_
      show Steps p.tables e below (T61.setTop (mkF m 45 #[.val (.int p1), .val (.int p2), .val (.int p3), .val (.int p4), .val (.int p5), .val (.int p6), .val (.ref b46), .val (.ref b61), .val (.int (p5 &&& (3 : Int32))), .unset, .unset, .unset, .unset, .unset, .unset] [(.int (4 : Int32)), (.int (((p5.toUInt32 >>> ((2 : Int32) &&& 31).toUInt32).toInt32) &&& (7 : Int32))), (.int (1 : Int32))])) _
      refine XS.iload X61.here hx rfl (hb hby at_45) rfl ?_
      show Steps p.tables e below (T61.setTop (mkF m 47 #[.val (.int p1), .val (.int p2), .val (.int p3), .val (.int p4), .val (.int p5), .val (.int p6), .val (.ref b46), .val (.ref b61), .val (.int (p5 &&& (3 : Int32))), .unset, .unset, .unset, .unset, .unset, .unset] [(.int (p5 &&& (3 : Int32))), (.int (4 : Int32)), (.int (((p5.toUInt32 >>> ((2 : Int32) &&& 31).toUInt32).toInt32) &&& (7 : Int32))), (.int (1 : Int32))])) _
      refine XS.isub X61.here hx rfl (hb hby at_47) rfl ?_
      show Steps p.tables e below (T61.setTop (mkF m 48 #[.val (.int p1), .val (.int p2), .val (.int p3), .val (.int p4), .val (.int p5), .val (.int p6), .val (.ref b46), .val (.ref b61), .val (.int (p5 &&& (3 : Int32))), .unset, .unset, .unset, .unset, .unset, .unset] [(.int ((4 : Int32) - (p5 &&& (3 : Int32)))), (.int (((p5.toUInt32 >>> ((2 : Int32) &&& 31).toUInt32).toInt32) &&& (7 : Int32))), (.int (1 : Int32))])) _
      refine iremM X61 hx rfl (hb hby at_48) rfl (h4ne) ?_
      show Steps p.tables e below (T61.setTop (mkF m 49 #[.val (.int p1), .val (.int p2), .val (.int p3), .val (.int p4), .val (.int p5), .val (.int p6), .val (.ref b46), .val (.ref b61), .val (.int (p5 &&& (3 : Int32))), .unset, .unset, .unset, .unset, .unset, .unset] [(.int ((((p5.toUInt32 >>> ((2 : Int32) &&& 31).toUInt32).toInt32) &&& (7 : Int32)) % ((4 : Int32) - (p5 &&& (3 : Int32))))), (.int (1 : Int32))])) _
      refine XS.iadd X61.here hx rfl (hb hby at_49) rfl ?_
      show Steps p.tables e below (T61.setTop (mkF m 50 #[.val (.int p1), .val (.int p2), .val (.int p3), .val (.int p4), .val (.int p5), .val (.int p6), .val (.ref b46), .val (.ref b61), .val (.int (p5 &&& (3 : Int32))), .unset, .unset, .unset, .unset, .unset, .unset] [(.int ((1 : Int32) + ((((p5.toUInt32 >>> ((2 : Int32) &&& 31).toUInt32).toInt32) &&& (7 : Int32)) % ((4 : Int32) - (p5 &&& (3 : Int32))))))])) _
      refine XS.istore X61.here hx rfl (hb hby at_50) rfl (l' := #[.val (.int p1), .val (.int p2), .val (.int p3), .val (.int p4), .val (.int p5), .val (.int p6), .val (.ref b46), .val (.ref b61), .val (.int (p5 &&& (3 : Int32))), .val (.int ((1 : Int32) + ((((p5.toUInt32 >>> ((2 : Int32) &&& 31).toUInt32).toInt32) &&& (7 : Int32)) % ((4 : Int32) - (p5 &&& (3 : Int32)))))), .unset, .unset, .unset, .unset, .unset]) rfl ?_
      show Steps p.tables e below (T61.setTop (mkF m 52 #[.val (.int p1), .val (.int p2), .val (.int p3), .val (.int p4), .val (.int p5), .val (.int p6), .val (.ref b46), .val (.ref b61), .val (.int (p5 &&& (3 : Int32))), .val (.int ((1 : Int32) + ((((p5.toUInt32 >>> ((2 : Int32) &&& 31).toUInt32).toInt32) &&& (7 : Int32)) % ((4 : Int32) - (p5 &&& (3 : Int32)))))), .unset, .unset, .unset, .unset, .unset] [])) _
      exact k)
  have q64 : ∀ t, Steps p.tables e below (T61.setTop (mkF m 52 #[.val (.int p1), .val (.int p2), .val (.int p3), .val (.int p4), .val (.int p5), .val (.int p6), .val (.ref b46), .val (.ref b61), .val (.int (p5 &&& (3 : Int32))), .val (.int LN), .unset, .unset, .unset, .unset, .unset] [])) t → Steps p.tables e below (s₁.setTop (entryFrame m #[(.int p1), (.int p2), (.int p3), (.int p4), (.int p5), (.int p6)] maxLocals)) t := fun t k => q63 t (by rw [show ((1 : Int32) + ((((p5.toUInt32 >>> ((2 : Int32) &&& 31).toUInt32).toInt32) &&& (7 : Int32)) % ((4 : Int32) - (p5 &&& (3 : Int32))))) = LN from (eL).symm]; exact k)
  have q65 : ∀ t, Steps p.tables e below (T61.setTop (mkF m 52 #[.val (.int p1), .val (.int p2), .val (.int p3), .val (.int p4), .val (.int p5), .val (.int p6), .val (.ref b46), .val (.ref b61), .val (.int ST), .val (.int LN), .unset, .unset, .unset, .unset, .unset] [])) t → Steps p.tables e below (s₁.setTop (entryFrame m #[(.int p1), (.int p2), (.int p3), (.int p4), (.int p5), (.int p6)] maxLocals)) t := fun t k => q64 t (by rw [show (p5 &&& (3 : Int32)) = ST from (eS).symm]; exact k)
  have q66 : ∀ t, Steps p.tables e below (T61.setTop (mkF m 69 #[.val (.int p1), .val (.int p2), .val (.int p3), .val (.int p4), .val (.int p5), .val (.int p6), .val (.ref b46), .val (.ref b61), .val (.int ST), .val (.int LN), .val (.int (ST + LN)), .val (.int ((p6 &&& (2147483647 : Int32)) % LN)), .unset, .unset, .unset] [])) t → Steps p.tables e below (s₁.setTop (entryFrame m #[(.int p1), (.int p2), (.int p3), (.int p4), (.int p5), (.int p6)] maxLocals)) t := fun t k => q65 t (by
      show Steps p.tables e below (T61.setTop (mkF m 52 #[.val (.int p1), .val (.int p2), .val (.int p3), .val (.int p4), .val (.int p5), .val (.int p6), .val (.ref b46), .val (.ref b61), .val (.int ST), .val (.int LN), .unset, .unset, .unset, .unset, .unset] [])) _
      refine XS.iload X61.here hx rfl (hb hby at_52) rfl ?_
      show Steps p.tables e below (T61.setTop (mkF m 54 #[.val (.int p1), .val (.int p2), .val (.int p3), .val (.int p4), .val (.int p5), .val (.int p6), .val (.ref b46), .val (.ref b61), .val (.int ST), .val (.int LN), .unset, .unset, .unset, .unset, .unset] [(.int ST)])) _
      refine XS.iload X61.here hx rfl (hb hby at_54) rfl ?_
      show Steps p.tables e below (T61.setTop (mkF m 56 #[.val (.int p1), .val (.int p2), .val (.int p3), .val (.int p4), .val (.int p5), .val (.int p6), .val (.ref b46), .val (.ref b61), .val (.int ST), .val (.int LN), .unset, .unset, .unset, .unset, .unset] [(.int LN), (.int ST)])) _
      refine XS.iadd X61.here hx rfl (hb hby at_56) rfl ?_
      show Steps p.tables e below (T61.setTop (mkF m 57 #[.val (.int p1), .val (.int p2), .val (.int p3), .val (.int p4), .val (.int p5), .val (.int p6), .val (.ref b46), .val (.ref b61), .val (.int ST), .val (.int LN), .unset, .unset, .unset, .unset, .unset] [(.int (ST + LN))])) _
      refine XS.istore X61.here hx rfl (hb hby at_57) rfl (l' := #[.val (.int p1), .val (.int p2), .val (.int p3), .val (.int p4), .val (.int p5), .val (.int p6), .val (.ref b46), .val (.ref b61), .val (.int ST), .val (.int LN), .val (.int (ST + LN)), .unset, .unset, .unset, .unset]) rfl ?_
      show Steps p.tables e below (T61.setTop (mkF m 59 #[.val (.int p1), .val (.int p2), .val (.int p3), .val (.int p4), .val (.int p5), .val (.int p6), .val (.ref b46), .val (.ref b61), .val (.int ST), .val (.int LN), .val (.int (ST + LN)), .unset, .unset, .unset, .unset] [])) _
      refine XS.iload X61.here hx rfl (hb hby at_59) rfl ?_
      show Steps p.tables e below (T61.setTop (mkF m 61 #[.val (.int p1), .val (.int p2), .val (.int p3), .val (.int p4), .val (.int p5), .val (.int p6), .val (.ref b46), .val (.ref b61), .val (.int ST), .val (.int LN), .val (.int (ST + LN)), .unset, .unset, .unset, .unset] [(.int p6)])) _
      refine Jvm.Stand.ldcI X61 hx hown (mvT hZ (hw _ (List.mem_of_getElem? (i := 2) rfl))) rfl (hb hby at_61) ?_
      show Steps p.tables e below (T61.setTop (mkF m 63 #[.val (.int p1), .val (.int p2), .val (.int p3), .val (.int p4), .val (.int p5), .val (.int p6), .val (.ref b46), .val (.ref b61), .val (.int ST), .val (.int LN), .val (.int (ST + LN)), .unset, .unset, .unset, .unset] [(.int (2147483647 : Int32)), (.int p6)])) _
      refine XS.iand X61.here hx rfl (hb hby at_63) rfl ?_
      show Steps p.tables e below (T61.setTop (mkF m 64 #[.val (.int p1), .val (.int p2), .val (.int p3), .val (.int p4), .val (.int p5), .val (.int p6), .val (.ref b46), .val (.ref b61), .val (.int ST), .val (.int LN), .val (.int (ST + LN)), .unset, .unset, .unset, .unset] [(.int (p6 &&& (2147483647 : Int32)))])) _
      refine XS.iload X61.here hx rfl (hb hby at_64) rfl ?_
      show Steps p.tables e below (T61.setTop (mkF m 66 #[.val (.int p1), .val (.int p2), .val (.int p3), .val (.int p4), .val (.int p5), .val (.int p6), .val (.ref b46), .val (.ref b61), .val (.int ST), .val (.int LN), .val (.int (ST + LN)), .unset, .unset, .unset, .unset] [(.int LN), (.int (p6 &&& (2147483647 : Int32)))])) _
      refine iremM X61 hx rfl (hb hby at_66) rfl (hlne) ?_
      show Steps p.tables e below (T61.setTop (mkF m 67 #[.val (.int p1), .val (.int p2), .val (.int p3), .val (.int p4), .val (.int p5), .val (.int p6), .val (.ref b46), .val (.ref b61), .val (.int ST), .val (.int LN), .val (.int (ST + LN)), .unset, .unset, .unset, .unset] [(.int ((p6 &&& (2147483647 : Int32)) % LN))])) _
      refine XS.istore X61.here hx rfl (hb hby at_67) rfl (l' := #[.val (.int p1), .val (.int p2), .val (.int p3), .val (.int p4), .val (.int p5), .val (.int p6), .val (.ref b46), .val (.ref b61), .val (.int ST), .val (.int LN), .val (.int (ST + LN)), .val (.int ((p6 &&& (2147483647 : Int32)) % LN)), .unset, .unset, .unset]) rfl ?_
      show Steps p.tables e below (T61.setTop (mkF m 69 #[.val (.int p1), .val (.int p2), .val (.int p3), .val (.int p4), .val (.int p5), .val (.int p6), .val (.ref b46), .val (.ref b61), .val (.int ST), .val (.int LN), .val (.int (ST + LN)), .val (.int ((p6 &&& (2147483647 : Int32)) % LN)), .unset, .unset, .unset] [])) _
      exact k)
  have q67 : ∀ t, Steps p.tables e below (T61.setTop (mkF m 69 #[.val (.int p1), .val (.int p2), .val (.int p3), .val (.int p4), .val (.int p5), .val (.int p6), .val (.ref b46), .val (.ref b61), .val (.int ST), .val (.int LN), .val (.int (ST + LN)), .val (.int IX), .unset, .unset, .unset] [])) t → Steps p.tables e below (s₁.setTop (entryFrame m #[(.int p1), (.int p2), (.int p3), (.int p4), (.int p5), (.int p6)] maxLocals)) t := fun t k => q66 t (by rw [show ((p6 &&& (2147483647 : Int32)) % LN) = IX from (eX).symm]; exact k)
  obtain ⟨T68, h68, X68, e68, E68, A68, D68, -, st68⟩ := newO X61 hx hZ hown (hw _ (List.mem_of_getElem? (i := 3) rfl)) (hw _ (List.mem_of_getElem? (i := 4) rfl)) (hw _ (List.mem_of_getElem? (i := 5) rfl)) e61 (g := (mkF m 69 #[.val (.int p1), .val (.int p2), .val (.int p3), .val (.int p4), .val (.int p5), .val (.int p6), .val (.ref b46), .val (.ref b61), .val (.int ST), .val (.int LN), .val (.int (ST + LN)), .val (.int IX), .unset, .unset, .unset] [])) rfl (hb hby at_69) (by decide) (by decide)
  obtain ⟨b68, g68⟩ : ∃ z, z = h61.size := ⟨_, rfl⟩
  rw [← g68] at A68 D68 st68
  have q69 : ∀ t, Steps p.tables e below (T68.setTop (mkF m 72 #[.val (.int p1), .val (.int p2), .val (.int p3), .val (.int p4), .val (.int p5), .val (.int p6), .val (.ref b46), .val (.ref b61), .val (.int ST), .val (.int LN), .val (.int (ST + LN)), .val (.int IX), .unset, .unset, .unset] [(.ref b68)])) t → Steps p.tables e below (s₁.setTop (entryFrame m #[(.int p1), (.int p2), (.int p3), (.int p4), (.int p5), (.int p6)] maxLocals)) t := fun t k => q67 t (st68 t k)
  have Z68 : n0 ≤ h68.size := Nat.le_trans Z61 E68.1
  have gA : n0 ≤ b68 := Nat.le_trans Z61 (Nat.le_of_eq g68.symm)
  have B6 := B5.ext E68
  have F_documents : Fld Z h68 b68 "com/example/demeter/demeter/engine/index/Postings" "documents" "[I" .null := D68 (Or.inr (hw _ (List.mem_of_getElem? (i := 13) rfl))) (ty := (.array .int)) (by decide)
  have F_frequencies : Fld Z h68 b68 "com/example/demeter/demeter/engine/index/Postings" "frequencies" "[D" .null := D68 (Or.inr (hw _ (List.mem_of_getElem? (i := 15) rfl))) (ty := (.array .double)) (by decide)
  have F_start : Fld Z h68 b68 "com/example/demeter/demeter/engine/index/Postings" "start" "I" (.int (0 : Int32)) := D68 (Or.inr (hw _ (List.mem_of_getElem? (i := 17) rfl))) (ty := .int) (by decide)
  have F_size : Fld Z h68 b68 "com/example/demeter/demeter/engine/index/Postings" "size" "I" (.int (0 : Int32)) := D68 (Or.inr (hw _ (List.mem_of_getElem? (i := 19) rfl))) (ty := .int) (by decide)
  have nA : b46 ≠ b68 := Nat.ne_of_lt (Nat.lt_of_lt_of_le B5.lt (Nat.le_of_eq g68.symm))
  have q70 : ∀ t, Steps p.tables e below (T68.setTop (mkF m 81 #[.val (.int p1), .val (.int p2), .val (.int p3), .val (.int p4), .val (.int p5), .val (.int p6), .val (.ref b46), .val (.ref b61), .val (.int ST), .val (.int LN), .val (.int (ST + LN)), .val (.int IX), .unset, .unset, .unset] [(.int (ST + LN)), (.int ST), (.ref b61), (.ref b46), (.ref b68), (.ref b68)])) t → Steps p.tables e below (s₁.setTop (entryFrame m #[(.int p1), (.int p2), (.int p3), (.int p4), (.int p5), (.int p6)] maxLocals)) t := fun t k => q69 t (by
      show Steps p.tables e below (T68.setTop (mkF m 72 #[.val (.int p1), .val (.int p2), .val (.int p3), .val (.int p4), .val (.int p5), .val (.int p6), .val (.ref b46), .val (.ref b61), .val (.int ST), .val (.int LN), .val (.int (ST + LN)), .val (.int IX), .unset, .unset, .unset] [(.ref b68)])) _
      refine XS.dup X68.here hx rfl (hb hby at_72) rfl rfl ?_
      show Steps p.tables e below (T68.setTop (mkF m 73 #[.val (.int p1), .val (.int p2), .val (.int p3), .val (.int p4), .val (.int p5), .val (.int p6), .val (.ref b46), .val (.ref b61), .val (.int ST), .val (.int LN), .val (.int (ST + LN)), .val (.int IX), .unset, .unset, .unset] [(.ref b68), (.ref b68)])) _
      refine XS.aload X68.here hx rfl (hb hby at_73) rfl rfl ?_
      show Steps p.tables e below (T68.setTop (mkF m 75 #[.val (.int p1), .val (.int p2), .val (.int p3), .val (.int p4), .val (.int p5), .val (.int p6), .val (.ref b46), .val (.ref b61), .val (.int ST), .val (.int LN), .val (.int (ST + LN)), .val (.int IX), .unset, .unset, .unset] [(.ref b46), (.ref b68), (.ref b68)])) _
      refine XS.aload X68.here hx rfl (hb hby at_75) rfl rfl ?_
      show Steps p.tables e below (T68.setTop (mkF m 77 #[.val (.int p1), .val (.int p2), .val (.int p3), .val (.int p4), .val (.int p5), .val (.int p6), .val (.ref b46), .val (.ref b61), .val (.int ST), .val (.int LN), .val (.int (ST + LN)), .val (.int IX), .unset, .unset, .unset] [(.ref b61), (.ref b46), (.ref b68), (.ref b68)])) _
      refine XS.iload X68.here hx rfl (hb hby at_77) rfl ?_
      show Steps p.tables e below (T68.setTop (mkF m 79 #[.val (.int p1), .val (.int p2), .val (.int p3), .val (.int p4), .val (.int p5), .val (.int p6), .val (.ref b46), .val (.ref b61), .val (.int ST), .val (.int LN), .val (.int (ST + LN)), .val (.int IX), .unset, .unset, .unset] [(.int ST), (.ref b61), (.ref b46), (.ref b68), (.ref b68)])) _
      refine XS.iload X68.here hx rfl (hb hby at_79) rfl ?_
      show Steps p.tables e below (T68.setTop (mkF m 81 #[.val (.int p1), .val (.int p2), .val (.int p3), .val (.int p4), .val (.int p5), .val (.int p6), .val (.ref b46), .val (.ref b61), .val (.int ST), .val (.int LN), .val (.int (ST + LN)), .val (.int IX), .unset, .unset, .unset] [(.int (ST + LN)), (.int ST), (.ref b61), (.ref b46), (.ref b68), (.ref b68)])) _
      exact k)
  obtain ⟨_, _, ⟨T71, L71, kk71, nn71⟩, -, X71, ⟨Lc71, hQ71, l71, y71, z71⟩, st71⟩ := X68.specialBack hx (y := (⟨"com/example/demeter/demeter/engine/index/Postings", "<init>", "([I[DII)V"⟩ : MethodName)) rfl hown (mvT hZ (hw _ (List.mem_of_getElem? (i := 6) rfl))) (mvT hZ (hw _ (List.mem_of_getElem? (i := 7) rfl))) (mvT hZ (hw _ (List.mem_of_getElem? (i := 8) rfl))) (by decide) (backOf (W := 1) (rm1 l Z a0 hw [] b68 b46 b61 ST (ST + LN) h68 n0 Z68 F_documents F_frequencies F_start F_size A68 gA) hZ (hw _ (List.mem_of_getElem? (i := 8) rfl)) (hw _ (List.mem_of_getElem? (i := 5) rfl)) (by decide) (by decide)) (g := (mkF m 81 #[.val (.int p1), .val (.int p2), .val (.int p3), .val (.int p4), .val (.int p5), .val (.int p6), .val (.ref b46), .val (.ref b61), .val (.int ST), .val (.int LN), .val (.int (ST + LN)), .val (.int IX), .unset, .unset, .unset] [(.int (ST + LN)), (.int ST), (.ref b61), (.ref b46), (.ref b68), (.ref b68)])) rfl (by rw [hml]; rfl) (Steps.refl _) (a := b68) (argsL := [(.ref b46), (.ref b61), (.int ST), (.int (ST + LN))]) (rest := [(.ref b68)]) (lenOf pd___I_DII_V rfl) rfl (by show 2 * 0 + _ ≤ _; exact Nat.le_of_eq rfl) (hb hby at_81) (fun _ _ => ⟨rfl, e68, (by decide : 3 + 0 ≤ _), (by decide : 12 + 0 ≤ _)⟩)
  dsimp only [Pt.U, Pt.locs, Pt.cells, Pt.slots] at X71 l71 y71 z71 st71 hQ71
  subst l71 y71 z71
  obtain ⟨rfl, Nq71, K71, EE71, FD71, FT71, FZ71⟩ := hQ71
  have N71 := Fr.app N58 Nq71
  have q72 : ∀ t, Steps p.tables e below (T71.setTop (mkF m 84 #[.val (.int p1), .val (.int p2), .val (.int p3), .val (.int p4), .val (.int p5), .val (.int p6), .val (.ref b46), .val (.ref b61), .val (.int ST), .val (.int LN), .val (.int (ST + LN)), .val (.int IX), .unset, .unset, .unset] [(.ref b68)])) t → Steps p.tables e below (s₁.setTop (entryFrame m #[(.int p1), (.int p2), (.int p3), (.int p4), (.int p5), (.int p6)] maxLocals)) t := fun t k => q70 t (st71.trans k)
  have Y71 : n0 ≤ T71.heap.size := Nat.le_trans Z68 K71.1
  have FZ : Fld Z T71.heap b68 "com/example/demeter/demeter/engine/index/Postings" "size" "I" (.int LN) := by have q := FZ71; rw [hzs] at q; exact q
  obtain ⟨cl, Ar, S, M, H⟩ := B6
  have Ar' : Arr Z T71.heap b46 cl .int := ⟨K71.2.1 _ _ Ar.1 (ninS nA nin0), Ar.2⟩
  have hin : ¬ ((ST + IX) < 0 ∨ cl.slots.size ≤ (ST + IX).toNatClampNeg) := inb_of S ⟨own_nlt (by omega), own_lt (by omega)⟩
  have hat : cl.slots[(ST + IX).toNatClampNeg]? = some (.int (own_pick (ST + IX) p1 p2 p3 p4)) := by rw [H _ (Nat.lt_of_not_le fun y => hin (Or.inr y))]; exact congrArg (fun z => some (Value.int z)) (own_at p1 p2 p3 p4 (ST + IX) (by omega) (by omega))
  have q73 : ∀ t, Steps p.tables e below (T71.setTop (mkF m 90 #[.val (.int p1), .val (.int p2), .val (.int p3), .val (.int p4), .val (.int p5), .val (.int p6), .val (.ref b46), .val (.ref b61), .val (.int ST), .val (.int LN), .val (.int (ST + LN)), .val (.int IX), .val (.ref b68), .unset, .unset] [(.int IX), (.ref b68)])) t → Steps p.tables e below (s₁.setTop (entryFrame m #[(.int p1), (.int p2), (.int p3), (.int p4), (.int p5), (.int p6)] maxLocals)) t := fun t k => q72 t (by
      show Steps p.tables e below (T71.setTop (mkF m 84 #[.val (.int p1), .val (.int p2), .val (.int p3), .val (.int p4), .val (.int p5), .val (.int p6), .val (.ref b46), .val (.ref b61), .val (.int ST), .val (.int LN), .val (.int (ST + LN)), .val (.int IX), .unset, .unset, .unset] [(.ref b68)])) _
      refine XS.astore X71.here hx rfl (hb hby at_84) rfl rfl (l' := #[.val (.int p1), .val (.int p2), .val (.int p3), .val (.int p4), .val (.int p5), .val (.int p6), .val (.ref b46), .val (.ref b61), .val (.int ST), .val (.int LN), .val (.int (ST + LN)), .val (.int IX), .val (.ref b68), .unset, .unset]) rfl ?_
      show Steps p.tables e below (T71.setTop (mkF m 86 #[.val (.int p1), .val (.int p2), .val (.int p3), .val (.int p4), .val (.int p5), .val (.int p6), .val (.ref b46), .val (.ref b61), .val (.int ST), .val (.int LN), .val (.int (ST + LN)), .val (.int IX), .val (.ref b68), .unset, .unset] [])) _
      refine XS.aload X71.here hx rfl (hb hby at_86) rfl rfl ?_
      show Steps p.tables e below (T71.setTop (mkF m 88 #[.val (.int p1), .val (.int p2), .val (.int p3), .val (.int p4), .val (.int p5), .val (.int p6), .val (.ref b46), .val (.ref b61), .val (.int ST), .val (.int LN), .val (.int (ST + LN)), .val (.int IX), .val (.ref b68), .unset, .unset] [(.ref b68)])) _
      refine XS.iload X71.here hx rfl (hb hby at_88) rfl ?_
      show Steps p.tables e below (T71.setTop (mkF m 90 #[.val (.int p1), .val (.int p2), .val (.int p3), .val (.int p4), .val (.int p5), .val (.int p6), .val (.ref b46), .val (.ref b61), .val (.int ST), .val (.int LN), .val (.int (ST + LN)), .val (.int IX), .val (.ref b68), .unset, .unset] [(.int IX), (.ref b68)])) _
      exact k)
  obtain ⟨cq74, kq74, qa74, qb74, qc74⟩ := isOf hZ rfl (EE71)
  obtain ⟨_, _, ⟨T74, L74, kk74, nn74⟩, -, X74, ⟨Lc74, hQ74, l74, y74, z74⟩, st74⟩ := X71.virtualBack hx (y := (⟨"com/example/demeter/demeter/engine/index/Postings", "document", "(I)I"⟩ : MethodName)) (z := (⟨"com/example/demeter/demeter/engine/index/Postings", "document", "(I)I"⟩ : MethodName)) hown (mvT hZ (hw _ (List.mem_of_getElem? (i := 20) rfl))) (mvT hZ (hw _ (List.mem_of_getElem? (i := 21) rfl))) (notFace_of_selects (args := #[]) (mvT hZ (hw _ (List.mem_of_getElem? (i := 23) rfl)))) (mvT hZ (hw _ (List.mem_of_getElem? (i := 23) rfl))) (mvT hZ (hw _ (List.mem_of_getElem? (i := 22) rfl))) (by decide) (backOf (W := 0) (rm4 l Z a0 hw [] b68 IX b46 ST LN (own_pick (ST + IX) p1 p2 p3 p4) cl T71.heap n0 Y71 FD71 FT71 FZ hxl hxh Ar' hin hat) hZ (hw _ (List.mem_of_getElem? (i := 24) rfl)) (hw _ (List.mem_of_getElem? (i := 5) rfl)) (by decide) (by decide)) qa74 qc74 (g := (mkF m 90 #[.val (.int p1), .val (.int p2), .val (.int p3), .val (.int p4), .val (.int p5), .val (.int p6), .val (.ref b46), .val (.ref b61), .val (.int ST), .val (.int LN), .val (.int (ST + LN)), .val (.int IX), .val (.ref b68), .unset, .unset] [(.int IX), (.ref b68)])) rfl (by rw [hml]; rfl) (Steps.refl _) (argsL := [(.int IX)]) (rest := []) (lenOf pd__I_I rfl) rfl (by show 2 * 0 + _ ≤ _; exact Nat.le_of_eq rfl) (hb hby at_90) (fun _ _ => ⟨rfl, rfl, (by decide : 3 + 0 ≤ _), (by decide : 12 + 0 ≤ _)⟩)
  dsimp only [Pt.U, Pt.locs, Pt.cells, Pt.slots] at X74 l74 y74 z74 st74 hQ74
  subst l74 y74 z74
  obtain ⟨rfl, Nq74, e74⟩ := hQ74
  have N74 := Fr.app N71 Nq74
  have q75 : ∀ t, Steps p.tables e below (T74.setTop (mkF m 93 #[.val (.int p1), .val (.int p2), .val (.int p3), .val (.int p4), .val (.int p5), .val (.int p6), .val (.ref b46), .val (.ref b61), .val (.int ST), .val (.int LN), .val (.int (ST + LN)), .val (.int IX), .val (.ref b68), .unset, .unset] [(.int (own_pick (ST + IX) p1 p2 p3 p4))])) t → Steps p.tables e below (s₁.setTop (entryFrame m #[(.int p1), (.int p2), (.int p3), (.int p4), (.int p5), (.int p6)] maxLocals)) t := fun t k => q73 t (st74.trans k)
  have q76 : ∀ t, Steps p.tables e below (T74.setTop (mkF m 104 #[.val (.int p1), .val (.int p2), .val (.int p3), .val (.int p4), .val (.int p5), .val (.int p6), .val (.ref b46), .val (.ref b61), .val (.int ST), .val (.int LN), .val (.int (ST + LN)), .val (.int IX), .val (.ref b68), .val (.int (own_pick (ST + IX) p1 p2 p3 p4)), .unset] [(.int p4), (.int p3), (.int p2), (.int p1), (.int (ST + IX))])) t → Steps p.tables e below (s₁.setTop (entryFrame m #[(.int p1), (.int p2), (.int p3), (.int p4), (.int p5), (.int p6)] maxLocals)) t := fun t k => q75 t (by
      show Steps p.tables e below (T74.setTop (mkF m 93 #[.val (.int p1), .val (.int p2), .val (.int p3), .val (.int p4), .val (.int p5), .val (.int p6), .val (.ref b46), .val (.ref b61), .val (.int ST), .val (.int LN), .val (.int (ST + LN)), .val (.int IX), .val (.ref b68), .unset, .unset] [(.int (own_pick (ST + IX) p1 p2 p3 p4))])) _
      refine XS.istore X74.here hx rfl (hb hby at_93) rfl (l' := #[.val (.int p1), .val (.int p2), .val (.int p3), .val (.int p4), .val (.int p5), .val (.int p6), .val (.ref b46), .val (.ref b61), .val (.int ST), .val (.int LN), .val (.int (ST + LN)), .val (.int IX), .val (.ref b68), .val (.int (own_pick (ST + IX) p1 p2 p3 p4)), .unset]) rfl ?_
      show Steps p.tables e below (T74.setTop (mkF m 95 #[.val (.int p1), .val (.int p2), .val (.int p3), .val (.int p4), .val (.int p5), .val (.int p6), .val (.ref b46), .val (.ref b61), .val (.int ST), .val (.int LN), .val (.int (ST + LN)), .val (.int IX), .val (.ref b68), .val (.int (own_pick (ST + IX) p1 p2 p3 p4)), .unset] [])) _
      refine XS.iload X74.here hx rfl (hb hby at_95) rfl ?_
      show Steps p.tables e below (T74.setTop (mkF m 97 #[.val (.int p1), .val (.int p2), .val (.int p3), .val (.int p4), .val (.int p5), .val (.int p6), .val (.ref b46), .val (.ref b61), .val (.int ST), .val (.int LN), .val (.int (ST + LN)), .val (.int IX), .val (.ref b68), .val (.int (own_pick (ST + IX) p1 p2 p3 p4)), .unset] [(.int ST)])) _
      refine XS.iload X74.here hx rfl (hb hby at_97) rfl ?_
      show Steps p.tables e below (T74.setTop (mkF m 99 #[.val (.int p1), .val (.int p2), .val (.int p3), .val (.int p4), .val (.int p5), .val (.int p6), .val (.ref b46), .val (.ref b61), .val (.int ST), .val (.int LN), .val (.int (ST + LN)), .val (.int IX), .val (.ref b68), .val (.int (own_pick (ST + IX) p1 p2 p3 p4)), .unset] [(.int IX), (.int ST)])) _
      refine XS.iadd X74.here hx rfl (hb hby at_99) rfl ?_
      show Steps p.tables e below (T74.setTop (mkF m 100 #[.val (.int p1), .val (.int p2), .val (.int p3), .val (.int p4), .val (.int p5), .val (.int p6), .val (.ref b46), .val (.ref b61), .val (.int ST), .val (.int LN), .val (.int (ST + LN)), .val (.int IX), .val (.ref b68), .val (.int (own_pick (ST + IX) p1 p2 p3 p4)), .unset] [(.int (ST + IX))])) _
      refine XS.iloadN X74.here hx rfl (hb hby at_100) rfl ?_
      show Steps p.tables e below (T74.setTop (mkF m 101 #[.val (.int p1), .val (.int p2), .val (.int p3), .val (.int p4), .val (.int p5), .val (.int p6), .val (.ref b46), .val (.ref b61), .val (.int ST), .val (.int LN), .val (.int (ST + LN)), .val (.int IX), .val (.ref b68), .val (.int (own_pick (ST + IX) p1 p2 p3 p4)), .unset] [(.int p1), (.int (ST + IX))])) _
      refine XS.iloadN X74.here hx rfl (hb hby at_101) rfl ?_
      show Steps p.tables e below (T74.setTop (mkF m 102 #[.val (.int p1), .val (.int p2), .val (.int p3), .val (.int p4), .val (.int p5), .val (.int p6), .val (.ref b46), .val (.ref b61), .val (.int ST), .val (.int LN), .val (.int (ST + LN)), .val (.int IX), .val (.ref b68), .val (.int (own_pick (ST + IX) p1 p2 p3 p4)), .unset] [(.int p2), (.int p1), (.int (ST + IX))])) _
      refine XS.iloadN X74.here hx rfl (hb hby at_102) rfl ?_
      show Steps p.tables e below (T74.setTop (mkF m 103 #[.val (.int p1), .val (.int p2), .val (.int p3), .val (.int p4), .val (.int p5), .val (.int p6), .val (.ref b46), .val (.ref b61), .val (.int ST), .val (.int LN), .val (.int (ST + LN)), .val (.int IX), .val (.ref b68), .val (.int (own_pick (ST + IX) p1 p2 p3 p4)), .unset] [(.int p3), (.int p2), (.int p1), (.int (ST + IX))])) _
      refine XS.iloadN X74.here hx rfl (hb hby at_103) rfl ?_
      show Steps p.tables e below (T74.setTop (mkF m 104 #[.val (.int p1), .val (.int p2), .val (.int p3), .val (.int p4), .val (.int p5), .val (.int p6), .val (.ref b46), .val (.ref b61), .val (.int ST), .val (.int LN), .val (.int (ST + LN)), .val (.int IX), .val (.ref b68), .val (.int (own_pick (ST + IX) p1 p2 p3 p4)), .unset] [(.int p4), (.int p3), (.int p2), (.int p1), (.int (ST + IX))])) _
      exact k)
  obtain ⟨_, _, ⟨T77, L77, kk77, nn77⟩, -, X77, ⟨Lc77, hQ77, l77, y77, z77⟩, st77⟩ := Jvm.LawKit.callS X74 hx (y := (⟨"com/example/demeter/demeter/engine/index/PostingsDocumentPinLaw", "pick", "(IIIII)I"⟩ : MethodName)) hown (mvT hZ (hw _ (List.mem_of_getElem? (i := 33) rfl))) (mvT hZ (hw _ (List.mem_of_getElem? (i := 34) rfl))) (mvT hZ (hw _ (List.mem_of_getElem? (i := 35) rfl))) (mvT hZ (hw _ (List.mem_of_getElem? (i := 36) rfl))) (by decide) (backOf (W := 0) (rm6 l Z a0 hw [] (ST + IX) p1 p2 p3 p4 T71.heap n0 Y71) hZ (hw _ (List.mem_of_getElem? (i := 36) rfl)) (hw _ (List.mem_of_getElem? (i := 35) rfl)) (by decide) (by decide)) (g := (mkF m 104 #[.val (.int p1), .val (.int p2), .val (.int p3), .val (.int p4), .val (.int p5), .val (.int p6), .val (.ref b46), .val (.ref b61), .val (.int ST), .val (.int LN), .val (.int (ST + LN)), .val (.int IX), .val (.ref b68), .val (.int (own_pick (ST + IX) p1 p2 p3 p4)), .unset] [(.int p4), (.int p3), (.int p2), (.int p1), (.int (ST + IX))])) rfl (by rw [hml]; rfl) (argsL := [(.int (ST + IX)), (.int p1), (.int p2), (.int p3), (.int p4)]) (rest := []) (lenOf pd__IIIII_I rfl) rfl (by show 2 * 0 + _ ≤ _; exact Nat.le_of_eq rfl) (hb hby at_104) (fun _ _ => ⟨rfl, e74, (by decide : 3 + 0 ≤ _), (by decide : 12 + 0 ≤ _)⟩)
  dsimp only [Pt.U, Pt.locs, Pt.cells, Pt.slots] at X77 l77 y77 z77 st77 hQ77
  subst l77 y77 z77
  obtain ⟨rfl, Nq77, e77⟩ := hQ77
  have N77 := Fr.app N74 Nq77
  have q78 : ∀ t, Steps p.tables e below (T77.setTop (mkF m 107 #[.val (.int p1), .val (.int p2), .val (.int p3), .val (.int p4), .val (.int p5), .val (.int p6), .val (.ref b46), .val (.ref b61), .val (.int ST), .val (.int LN), .val (.int (ST + LN)), .val (.int IX), .val (.ref b68), .val (.int (own_pick (ST + IX) p1 p2 p3 p4)), .unset] [(.int (own_pick (ST + IX) p1 p2 p3 p4))])) t → Steps p.tables e below (s₁.setTop (entryFrame m #[(.int p1), (.int p2), (.int p3), (.int p4), (.int p5), (.int p6)] maxLocals)) t := fun t k => q76 t (st77 t k)
  have q79 : ∀ t, Steps p.tables e below (T77.setTop (mkF m 118 #[.val (.int p1), .val (.int p2), .val (.int p3), .val (.int p4), .val (.int p5), .val (.int p6), .val (.ref b46), .val (.ref b61), .val (.int ST), .val (.int LN), .val (.int (ST + LN)), .val (.int IX), .val (.ref b68), .val (.int (own_pick (ST + IX) p1 p2 p3 p4)), .val (.int (own_pick (ST + IX) p1 p2 p3 p4))] [(.ref b68)])) t → Steps p.tables e below (s₁.setTop (entryFrame m #[(.int p1), (.int p2), (.int p3), (.int p4), (.int p5), (.int p6)] maxLocals)) t := fun t k => q78 t (by
      show Steps p.tables e below (T77.setTop (mkF m 107 #[.val (.int p1), .val (.int p2), .val (.int p3), .val (.int p4), .val (.int p5), .val (.int p6), .val (.ref b46), .val (.ref b61), .val (.int ST), .val (.int LN), .val (.int (ST + LN)), .val (.int IX), .val (.ref b68), .val (.int (own_pick (ST + IX) p1 p2 p3 p4)), .unset] [(.int (own_pick (ST + IX) p1 p2 p3 p4))])) _
      refine XS.istore X77.here hx rfl (hb hby at_107) rfl (l' := #[.val (.int p1), .val (.int p2), .val (.int p3), .val (.int p4), .val (.int p5), .val (.int p6), .val (.ref b46), .val (.ref b61), .val (.int ST), .val (.int LN), .val (.int (ST + LN)), .val (.int IX), .val (.ref b68), .val (.int (own_pick (ST + IX) p1 p2 p3 p4)), .val (.int (own_pick (ST + IX) p1 p2 p3 p4))]) rfl ?_
      show Steps p.tables e below (T77.setTop (mkF m 109 #[.val (.int p1), .val (.int p2), .val (.int p3), .val (.int p4), .val (.int p5), .val (.int p6), .val (.ref b46), .val (.ref b61), .val (.int ST), .val (.int LN), .val (.int (ST + LN)), .val (.int IX), .val (.ref b68), .val (.int (own_pick (ST + IX) p1 p2 p3 p4)), .val (.int (own_pick (ST + IX) p1 p2 p3 p4))] [])) _
      refine XS.iload X77.here hx rfl (hb hby at_109) rfl ?_
      show Steps p.tables e below (T77.setTop (mkF m 111 #[.val (.int p1), .val (.int p2), .val (.int p3), .val (.int p4), .val (.int p5), .val (.int p6), .val (.ref b46), .val (.ref b61), .val (.int ST), .val (.int LN), .val (.int (ST + LN)), .val (.int IX), .val (.ref b68), .val (.int (own_pick (ST + IX) p1 p2 p3 p4)), .val (.int (own_pick (ST + IX) p1 p2 p3 p4))] [(.int (own_pick (ST + IX) p1 p2 p3 p4))])) _
      refine XS.iload X77.here hx rfl (hb hby at_111) rfl ?_
      show Steps p.tables e below (T77.setTop (mkF m 113 #[.val (.int p1), .val (.int p2), .val (.int p3), .val (.int p4), .val (.int p5), .val (.int p6), .val (.ref b46), .val (.ref b61), .val (.int ST), .val (.int LN), .val (.int (ST + LN)), .val (.int IX), .val (.ref b68), .val (.int (own_pick (ST + IX) p1 p2 p3 p4)), .val (.int (own_pick (ST + IX) p1 p2 p3 p4))] [(.int (own_pick (ST + IX) p1 p2 p3 p4)), (.int (own_pick (ST + IX) p1 p2 p3 p4))])) _
      refine XS.icmpNo X77.here hx rfl (hb hby at_113) rfl (XT.ii_ne_f (rfl : (own_pick (ST + IX) p1 p2 p3 p4) = (own_pick (ST + IX) p1 p2 p3 p4))) ?_
      show Steps p.tables e below (T77.setTop (mkF m 116 #[.val (.int p1), .val (.int p2), .val (.int p3), .val (.int p4), .val (.int p5), .val (.int p6), .val (.ref b46), .val (.ref b61), .val (.int ST), .val (.int LN), .val (.int (ST + LN)), .val (.int IX), .val (.ref b68), .val (.int (own_pick (ST + IX) p1 p2 p3 p4)), .val (.int (own_pick (ST + IX) p1 p2 p3 p4))] [])) _
      refine XS.aload X77.here hx rfl (hb hby at_116) rfl rfl ?_
      show Steps p.tables e below (T77.setTop (mkF m 118 #[.val (.int p1), .val (.int p2), .val (.int p3), .val (.int p4), .val (.int p5), .val (.int p6), .val (.ref b46), .val (.ref b61), .val (.int ST), .val (.int LN), .val (.int (ST + LN)), .val (.int IX), .val (.ref b68), .val (.int (own_pick (ST + IX) p1 p2 p3 p4)), .val (.int (own_pick (ST + IX) p1 p2 p3 p4))] [(.ref b68)])) _
      exact k)
  obtain ⟨cq80, kq80, qa80, qb80, qc80⟩ := isOf hZ e77 (EE71)
  obtain ⟨_, _, ⟨T80, L80, kk80, nn80⟩, -, X80, ⟨Lc80, hQ80, l80, y80, z80⟩, st80⟩ := X77.virtualBack hx (y := (⟨"com/example/demeter/demeter/engine/index/Postings", "size", "()I"⟩ : MethodName)) (z := (⟨"com/example/demeter/demeter/engine/index/Postings", "size", "()I"⟩ : MethodName)) hown (mvT hZ (hw _ (List.mem_of_getElem? (i := 37) rfl))) (mvT hZ (hw _ (List.mem_of_getElem? (i := 38) rfl))) (notFace_of_selects (args := #[]) (mvT hZ (hw _ (List.mem_of_getElem? (i := 40) rfl)))) (mvT hZ (hw _ (List.mem_of_getElem? (i := 40) rfl))) (mvT hZ (hw _ (List.mem_of_getElem? (i := 39) rfl))) (by decide) (backOf (W := 0) (rm5 l Z a0 hw [] b68 LN T71.heap n0 Y71 FZ) hZ (hw _ (List.mem_of_getElem? (i := 41) rfl)) (hw _ (List.mem_of_getElem? (i := 5) rfl)) (by decide) (by decide)) qa80 qc80 (g := (mkF m 118 #[.val (.int p1), .val (.int p2), .val (.int p3), .val (.int p4), .val (.int p5), .val (.int p6), .val (.ref b46), .val (.ref b61), .val (.int ST), .val (.int LN), .val (.int (ST + LN)), .val (.int IX), .val (.ref b68), .val (.int (own_pick (ST + IX) p1 p2 p3 p4)), .val (.int (own_pick (ST + IX) p1 p2 p3 p4))] [(.ref b68)])) rfl (by rw [hml]; rfl) (Steps.refl _) (argsL := []) (rest := []) (lenOf pd___I rfl) rfl (by show 2 * 0 + _ ≤ _; exact Nat.le_of_eq rfl) (hb hby at_118) (fun _ _ => ⟨rfl, e77, (by decide : 3 + 0 ≤ _), (by decide : 12 + 0 ≤ _)⟩)
  dsimp only [Pt.U, Pt.locs, Pt.cells, Pt.slots] at X80 l80 y80 z80 st80 hQ80
  subst l80 y80 z80
  obtain ⟨rfl, Nq80, e80⟩ := hQ80
  have N80 := Fr.app N77 Nq80
  have q81 : ∀ t, Steps p.tables e below (T80.setTop (mkF m 121 #[.val (.int p1), .val (.int p2), .val (.int p3), .val (.int p4), .val (.int p5), .val (.int p6), .val (.ref b46), .val (.ref b61), .val (.int ST), .val (.int LN), .val (.int (ST + LN)), .val (.int IX), .val (.ref b68), .val (.int (own_pick (ST + IX) p1 p2 p3 p4)), .val (.int (own_pick (ST + IX) p1 p2 p3 p4))] [(.int LN)])) t → Steps p.tables e below (s₁.setTop (entryFrame m #[(.int p1), (.int p2), (.int p3), (.int p4), (.int p5), (.int p6)] maxLocals)) t := fun t k => q79 t (st80.trans k)
  have q82 : ∀ t, Steps p.tables e below (T80.setTop (mkF m 131 #[.val (.int p1), .val (.int p2), .val (.int p3), .val (.int p4), .val (.int p5), .val (.int p6), .val (.ref b46), .val (.ref b61), .val (.int ST), .val (.int LN), .val (.int (ST + LN)), .val (.int IX), .val (.ref b68), .val (.int (own_pick (ST + IX) p1 p2 p3 p4)), .val (.int (own_pick (ST + IX) p1 p2 p3 p4))] [(.int (1 : Int32))])) t → Steps p.tables e below (s₁.setTop (entryFrame m #[(.int p1), (.int p2), (.int p3), (.int p4), (.int p5), (.int p6)] maxLocals)) t := fun t k => q81 t (by
      show Steps p.tables e below (T80.setTop (mkF m 121 #[.val (.int p1), .val (.int p2), .val (.int p3), .val (.int p4), .val (.int p5), .val (.int p6), .val (.ref b46), .val (.ref b61), .val (.int ST), .val (.int LN), .val (.int (ST + LN)), .val (.int IX), .val (.ref b68), .val (.int (own_pick (ST + IX) p1 p2 p3 p4)), .val (.int (own_pick (ST + IX) p1 p2 p3 p4))] [(.int LN)])) _
      refine XS.iload X80.here hx rfl (hb hby at_121) rfl ?_
      show Steps p.tables e below (T80.setTop (mkF m 123 #[.val (.int p1), .val (.int p2), .val (.int p3), .val (.int p4), .val (.int p5), .val (.int p6), .val (.ref b46), .val (.ref b61), .val (.int ST), .val (.int LN), .val (.int (ST + LN)), .val (.int IX), .val (.ref b68), .val (.int (own_pick (ST + IX) p1 p2 p3 p4)), .val (.int (own_pick (ST + IX) p1 p2 p3 p4))] [(.int LN), (.int LN)])) _
      refine XS.icmpNo X80.here hx rfl (hb hby at_123) rfl (XT.ii_ne_f (rfl : LN = LN)) ?_
      show Steps p.tables e below (T80.setTop (mkF m 126 #[.val (.int p1), .val (.int p2), .val (.int p3), .val (.int p4), .val (.int p5), .val (.int p6), .val (.ref b46), .val (.ref b61), .val (.int ST), .val (.int LN), .val (.int (ST + LN)), .val (.int IX), .val (.ref b68), .val (.int (own_pick (ST + IX) p1 p2 p3 p4)), .val (.int (own_pick (ST + IX) p1 p2 p3 p4))] [])) _
      refine XS.iconst X80.here hx rfl (hb hby at_126) ?_
      show Steps p.tables e below (T80.setTop (mkF m 127 #[.val (.int p1), .val (.int p2), .val (.int p3), .val (.int p4), .val (.int p5), .val (.int p6), .val (.ref b46), .val (.ref b61), .val (.int ST), .val (.int LN), .val (.int (ST + LN)), .val (.int IX), .val (.ref b68), .val (.int (own_pick (ST + IX) p1 p2 p3 p4)), .val (.int (own_pick (ST + IX) p1 p2 p3 p4))] [(.int (1 : Int32))])) _
      refine XS.goto X80.here hx rfl (pc0 := 127) (pc' := 131) rfl (hb hby at_127) (by decide) (by decide) ?_
      show Steps p.tables e below (T80.setTop (mkF m 131 #[.val (.int p1), .val (.int p2), .val (.int p3), .val (.int p4), .val (.int p5), .val (.int p6), .val (.ref b46), .val (.ref b61), .val (.int ST), .val (.int LN), .val (.int (ST + LN)), .val (.int IX), .val (.ref b68), .val (.int (own_pick (ST + IX) p1 p2 p3 p4)), .val (.int (own_pick (ST + IX) p1 p2 p3 p4))] [(.int (1 : Int32))])) _
      exact k)
  obtain ⟨fs, hr, hrun, hended, hW, hsame⟩ := X80.leave (v := some (.int (1 : Int32))) (fun h => by rw [Bd.returns] at h; cases h)
  refine ⟨_, _, q82 _ ?_, hrun, hended, _, _, rfl, ?_, ⟨_, rfl⟩, hW, hsame.mono (by decide) (by decide)⟩
  · show Steps p.tables e below (T80.setTop (mkF m 131 #[.val (.int p1), .val (.int p2), .val (.int p3), .val (.int p4), .val (.int p5), .val (.int p6), .val (.ref b46), .val (.ref b61), .val (.int ST), .val (.int LN), .val (.int (ST + LN)), .val (.int IX), .val (.ref b68), .val (.int (own_pick (ST + IX) p1 p2 p3 p4)), .val (.int (own_pick (ST + IX) p1 p2 p3 p4))] [(.int (1 : Int32))])) _
    exact retN X80 hx (t := .boolean) Bd.returns (by simp) (hb hby at_131) hr
  · show QL n0 _ T80.heap _
    exact ⟨rfl, N80⟩
set_option maxRecDepth 65536 in
set_option maxHeartbeats 40000000 in
theorem comes_1 {Post : Tables → Env → Array Value → State → Outcome → State → Prop} (hpost : ∀ tb e args s v u, (limb_1_1.after args s (.returned v) u = true ∧ limb_1_2.after args s (.returned v) u = true ∧ True) → FrameEnd s (.returned v) u (Jvm.fieldLocs frame_1_writes args s ++ Jvm.arrayLocs frame_1_arrays args s ++ Jvm.staticLocs frame_1_statics s) 16 128 → Post tb e args s (.returned v) u) :
    ArmFor flags0 classFile x code maxLocals ret World_1 tables_1 room_1 Calls_1 rest_1 Pre_1 Post := by
  intro l hfl _ _ p e ha hc hk s m args below hf hA hF happ hP
  obtain ⟨hcalls, hrest, hpre⟩ := hP
  obtain ⟨-, -, -, hnamed, -, -, -, hat⟩ := (Spec.applies_iff hf).mp happ
  obtain ⟨hg, hn⟩ := and_e (Cond.before_iff.mp (show (Jvm.Cond.and given_1 narrow_1).before args s = true from hpre))
  obtain ⟨gc, r0⟩ := and_e hg
  obtain ⟨g0, r1⟩ := and_e r0
  obtain ⟨g1, r2⟩ := and_e r1
  obtain ⟨g2, r3⟩ := and_e r2
  obtain ⟨g3, r4⟩ := and_e r3
  obtain ⟨g4, r5⟩ := and_e r4
  obtain ⟨w0, w1, w2, w3, w4, w5, rfl⟩ : ∃ w0 w1 w2 w3 w4 w5 : Value, args = #[w0, w1, w2, w3, w4, w5] := by
    have hs : args.size = 6 := by simpa [Cond.value, given_1] using gc
    obtain ⟨L⟩ := args
    match L, hs with
    | [w0, w1, w2, w3, w4, w5], _ => exact ⟨w0, w1, w2, w3, w4, w5, rfl⟩
  have hw := fun d (hd : d ∈ tables_1) => atoms_spec (ws := Jvm.Cond.code x code maxLocals ret :: tables_1) hat d (List.mem_cons_of_mem _ hd)
  obtain ⟨i0, ei0⟩ := is_v g0
  obtain rfl : w0 = (.int i0) := Option.some.inj ei0
  obtain ⟨i1, ei1⟩ := is_v g1
  obtain rfl : w1 = (.int i1) := Option.some.inj ei1
  obtain ⟨i2, ei2⟩ := is_v g2
  obtain rfl : w2 = (.int i2) := Option.some.inj ei2
  obtain ⟨i3, ei3⟩ := is_v g3
  obtain rfl : w3 = (.int i3) := Option.some.inj ei3
  obtain ⟨i4, ei4⟩ := is_v g4
  obtain rfl : w4 = (.int i4) := Option.some.inj ei4
  obtain ⟨i5, ei5⟩ := is_v r5
  obtain rfl : w5 = (.int i5) := Option.some.inj ei5
  obtain ⟨n, o, h1, h2, h3, _, L, rfl, ⟨rfl, N⟩, hq⟩ := rm0 l s _ hw tables_1 i0 i1 i2 i3 i4 i5 s.heap s.heap.size (Nat.le_refl _) p e ha hc hk s m _ below hf ((Spec.applies_iff_loose hf).mp happ).1 ⟨rfl, State.Warmed39.refl s, rfl⟩ trivial
  refine ⟨n, _, h1, h2, h3, hpost _ _ _ _ _ _ ⟨Cond.after_iff.mpr rfl, Cond.after_iff.mpr (eq_i res_at (Term.int_eval (1)) rfl), trivial⟩ ⟨hq.1, hq.2.1, (hq.2.2.sift fun y hy => Or.inr (N y hy)).mono (by decide) (by decide)⟩⟩
theorem main_1_1 : Claimed_1_1 := comes_1 fun _ _ _ _ _ _ h hF => ⟨h.1, hF⟩
theorem main_1_2 : Claimed_1_2 := comes_1 fun _ _ _ _ _ _ h hF => ⟨h.2.1, hF⟩
end Jvm.Pilot.@@N@@
namespace Jvm.Pilot.@@N@@
open Jvm Jvm.ClassFile Sem Op Lib Jvm.Free Jvm.Stand Jvm.Pilot.@@N@@.Jvm.D
/-! MADE BY PROGRAM (witnessworld.py) out of the Statement's table words and the real class files: 11 classes; the members and pool entries that the words name. The judged class is class 1, her method 2. -/
namespace start1
open Jvm.ClassFile
def u (s : String) : CpInfo := .utf8 (stringToUtf16 s)
/-- a pool by its gaps: so many unusable entries, then the entry; so many at the end -/
def gap : Nat → List CpInfo → List CpInfo
  | 0, r => r
  | n + 1, r => .unusable :: gap n r
def poolList (es : List (Nat × CpInfo)) (last : Nat) : List CpInfo := es.foldr (fun e r => gap e.1 (e.2 :: r)) (gap last [])
def pool (es : List (Nat × CpInfo)) (last : Nat) : Array CpInfo := ⟨poolList es last⟩
def fileOf (pool : Array CpInfo) (this : Nat) (attrs : Array Attribute := #[]) (ms : Array MethodInfo := #[]) (fl : Nat := 33) (sup : Nat := 0) (ifs : Array Nat := #[]) (fds : Array FieldInfo := #[]) : ClassFile where
  minorVersion := 0
  majorVersion := 65
  constantPool := pool
  accessFlags := fl
  thisClass := this
  superClass := sup
  interfaces := ifs
  fields := fds
  methods := ms
  attributes := attrs
def plain (name : String) (sup : Option ClassId) : Class where
  name := name
  kind := .ordinary
  loader := none
  accessFlags := 33
  super := sup
  interfaces := #[]
  cf := none
  fields := #[]
  methods := #[]
  instanceTypes := #[]
  staticTypes := #[]
  resolved := #[]
  callSites := []
  init := .initialized
  statics := none
  mirror := none

def pool0 : Array CpInfo := pool [(5, u "<init>"), (0, u "()V"), (1, .class_ 10), (1, u "java/lang/Object")] 113

def k0c0 : Code := { maxStack := 0, maxLocals := 1, code := object_method_1_code, exceptionTable := #[], attributes := #[] }
def k0m0 : Method := { name := "<init>", desc := "()V", sig := { parameters := [], returnType := none }, accessFlags := 1, code := some k0c0 }
/-- java/lang/Object -/
def k0 : Class := { plain "java/lang/Object" none with
  accessFlags := 33
  interfaces := #[]
  cf := some (fileOf pool0 8 #[] #[{ accessFlags := 1, nameIndex := 5, descriptorIndex := 6, attributes := #[] }] 33 0 #[] #[])
  fields := #[]
  methods := #[k0m0]
  instanceTypes := #[]
  staticTypes := #[]
  resolved := Array.replicate 124 none
  statics := none }

def pool1 : Array CpInfo := pool [(2, .class_ 4), (1, u "java/lang/Object"), (0, u "<init>"), (0, u "()V"), (0, .integer 2147483647), (0, .class_ 9), (0, u "com/example/demeter/demeter/engine/index/Postings"), (0, .methodref 8 11), (0, .nameAndType 5 12), (0, u "([I[DII)V"), (0, .methodref 8 14), (0, .nameAndType 15 16), (0, u "document"), (0, u "(I)I"), (0, .methodref 18 19), (0, .class_ 20), (0, .nameAndType 21 22), (0, u "com/example/demeter/demeter/engine/index/PostingsDocumentPinLaw"), (0, u "pick"), (0, u "(IIIII)I"), (0, .methodref 8 24), (0, .nameAndType 25 26), (0, u "size"), (0, u "()I"), (3, u "law"), (0, u "(IIIIII)Z")] 6

def k1m0 : Method := { name := "<init>", desc := "()V", sig := { parameters := [], returnType := none }, accessFlags := 1, code := none }
def k1c1 : Code := { maxStack := 2, maxLocals := 5, code := method_2_code, exceptionTable := #[], attributes := #[] }
def k1m1 : Method := { name := "pick", desc := "(IIIII)I", sig := { parameters := [.int, .int, .int, .int, .int], returnType := some .int }, accessFlags := 10, code := some k1c1 }
def k1c2 : Code := { maxStack := 6, maxLocals := 15, code := code, exceptionTable := #[], attributes := #[] }
def k1m2 : Method := { name := "law", desc := "(IIIIII)Z", sig := { parameters := [.int, .int, .int, .int, .int, .int], returnType := some .boolean }, accessFlags := 9, code := some k1c2 }
/-- com/example/demeter/demeter/engine/index/PostingsDocumentPinLaw -/
def k1 : Class := { plain "com/example/demeter/demeter/engine/index/PostingsDocumentPinLaw" (some 0) with
  accessFlags := 49
  interfaces := #[]
  cf := some (fileOf pool1 18 #[] #[{ accessFlags := 1, nameIndex := 5, descriptorIndex := 6, attributes := #[] }, { accessFlags := 10, nameIndex := 21, descriptorIndex := 22, attributes := #[] }, { accessFlags := 9, nameIndex := 30, descriptorIndex := 31, attributes := #[] }] 49 2 #[] #[])
  fields := #[]
  methods := #[k1m0, k1m1, k1m2]
  instanceTypes := #[]
  staticTypes := #[]
  resolved := Array.replicate 38 none
  statics := none }

def pool2 : Array CpInfo := pool [(1, .methodref 2 3), (0, .class_ 4), (0, .nameAndType 5 6), (0, u "java/lang/Object"), (0, u "<init>"), (0, u "()V"), (0, .fieldref 8 9), (0, .class_ 10), (0, .nameAndType 11 12), (0, u "com/example/demeter/demeter/engine/index/Postings"), (0, u "documents"), (0, u "[I"), (0, .fieldref 8 14), (0, .nameAndType 15 16), (0, u "frequencies"), (0, u "[D"), (0, .fieldref 8 18), (0, .nameAndType 19 20), (0, u "start"), (0, u "I"), (0, .fieldref 8 22), (0, .nameAndType 23 20), (0, u "size"), (0, .methodref 25 26), (0, .class_ 27), (0, .nameAndType 28 29), (0, u "java/util/Objects"), (0, u "checkIndex"), (0, u "(II)I"), (0, u "([I[DII)V"), (2, u "()I"), (0, u "document"), (0, u "(I)I")] 4

def k2c0 : Code := { maxStack := 3, maxLocals := 5, code := prog_12_method_1_code, exceptionTable := #[], attributes := #[] }
def k2m0 : Method := { name := "<init>", desc := "([I[DII)V", sig := { parameters := [(.array .int), (.array .double), .int, .int], returnType := none }, accessFlags := 0, code := some k2c0 }
def k2c1 : Code := { maxStack := 1, maxLocals := 1, code := prog_12_method_2_code, exceptionTable := #[], attributes := #[] }
def k2m1 : Method := { name := "size", desc := "()I", sig := { parameters := [], returnType := some .int }, accessFlags := 1, code := some k2c1 }
def k2c2 : Code := { maxStack := 4, maxLocals := 2, code := prog_12_method_3_code, exceptionTable := #[], attributes := #[] }
def k2m2 : Method := { name := "document", desc := "(I)I", sig := { parameters := [.int], returnType := some .int }, accessFlags := 1, code := some k2c2 }
/-- com/example/demeter/demeter/engine/index/Postings -/
def k2 : Class := { plain "com/example/demeter/demeter/engine/index/Postings" (some 0) with
  accessFlags := 33
  interfaces := #[]
  cf := some (fileOf pool2 8 #[] #[{ accessFlags := 0, nameIndex := 5, descriptorIndex := 30, attributes := #[] }, { accessFlags := 1, nameIndex := 23, descriptorIndex := 33, attributes := #[] }, { accessFlags := 1, nameIndex := 34, descriptorIndex := 35, attributes := #[] }] 33 2 #[] #[{ accessFlags := 18, nameIndex := 11, descriptorIndex := 12, attributes := #[] }, { accessFlags := 18, nameIndex := 15, descriptorIndex := 16, attributes := #[] }, { accessFlags := 18, nameIndex := 19, descriptorIndex := 20, attributes := #[] }, { accessFlags := 18, nameIndex := 23, descriptorIndex := 20, attributes := #[] }])
  fields := #[{ name := "documents", type := (.array .int), accessFlags := 18, slot := 0, constantValue := 0 }, { name := "frequencies", type := (.array .double), accessFlags := 18, slot := 1, constantValue := 0 }, { name := "start", type := .int, accessFlags := 18, slot := 2, constantValue := 0 }, { name := "size", type := .int, accessFlags := 18, slot := 3, constantValue := 0 }]
  methods := #[k2m0, k2m1, k2m2]
  instanceTypes := #[(.array .int), (.array .double), .int, .int]
  staticTypes := #[]
  resolved := Array.replicate 40 none
  statics := none }

def pool3 : Array CpInfo := pool [(2, .class_ 4), (1, u "java/lang/Object"), (0, u "<init>"), (0, u "()V"), (35, .class_ 44), (1, u "java/util/Objects"), (60, .methodref 106 107), (0, .class_ 108), (0, .nameAndType 109 110), (0, u "jdk/internal/util/Preconditions"), (0, u "checkIndex"), (0, u "(IILjava/util/function/BiFunction;)I"), (60, u "(II)I")] 12

def k3m0 : Method := { name := "<init>", desc := "()V", sig := { parameters := [], returnType := none }, accessFlags := 2, code := none }
def k3c1 : Code := { maxStack := 3, maxLocals := 2, code := jdk_31_method_17_code, exceptionTable := #[], attributes := #[] }
def k3m1 : Method := { name := "checkIndex", desc := "(II)I", sig := { parameters := [.int, .int], returnType := some .int }, accessFlags := 9, code := some k3c1 }
/-- java/util/Objects -/
def k3 : Class := { plain "java/util/Objects" (some 0) with
  accessFlags := 49
  interfaces := #[]
  cf := some (fileOf pool3 42 #[] #[{ accessFlags := 2, nameIndex := 5, descriptorIndex := 6, attributes := #[] }, { accessFlags := 9, nameIndex := 109, descriptorIndex := 171, attributes := #[] }] 49 2 #[] #[])
  fields := #[]
  methods := #[k3m0, k3m1]
  instanceTypes := #[]
  staticTypes := #[]
  resolved := Array.replicate 184 none
  statics := none }

def pool4 : Array CpInfo := pool [(2, .class_ 4), (1, u "java/lang/Object"), (0, u "<init>"), (0, u "()V"), (17, .class_ 26), (1, u "jdk/internal/util/Preconditions"), (6, u "checkIndex"), (21, .class_ 56), (0, u "jdk/internal/util/Preconditions$4"), (57, .class_ 115), (0, u "jdk/internal/util/Preconditions$1"), (7, u "SIOOBE_FORMATTER"), (0, u "Ljava/util/function/BiFunction;"), (0, .class_ 126), (0, u "jdk/internal/util/Preconditions$2"), (3, u "AIOOBE_FORMATTER"), (0, .class_ 132), (0, u "jdk/internal/util/Preconditions$3"), (3, u "IOOBE_FORMATTER"), (41, u "(IILjava/util/function/BiFunction;)I")] 15

def k4m0 : Method := { name := "<init>", desc := "()V", sig := { parameters := [], returnType := none }, accessFlags := 1, code := none }
def k4c1 : Code := { maxStack := 3, maxLocals := 3, code := jdk_41_method_11_code, exceptionTable := #[], attributes := #[] }
def k4m1 : Method := { name := "checkIndex", desc := "(IILjava/util/function/BiFunction;)I", sig := { parameters := [.int, .int, (.object "java/util/function/BiFunction")], returnType := some .int }, accessFlags := 9, code := some k4c1 }
/-- jdk/internal/util/Preconditions -/
def k4 : Class := { plain "jdk/internal/util/Preconditions" (some 0) with
  accessFlags := 33
  interfaces := #[]
  cf := some (fileOf pool4 24 #[.nestMembers #[55, 131, 125, 114]] #[{ accessFlags := 1, nameIndex := 5, descriptorIndex := 6, attributes := #[] }, { accessFlags := 9, nameIndex := 33, descriptorIndex := 178, attributes := #[] }] 33 2 #[] #[{ accessFlags := 25, nameIndex := 123, descriptorIndex := 124, attributes := #[] }, { accessFlags := 25, nameIndex := 130, descriptorIndex := 124, attributes := #[] }, { accessFlags := 25, nameIndex := 136, descriptorIndex := 124, attributes := #[] }])
  fields := #[{ name := "SIOOBE_FORMATTER", type := (.object "java/util/function/BiFunction"), accessFlags := 25, slot := 0, constantValue := 0 }, { name := "AIOOBE_FORMATTER", type := (.object "java/util/function/BiFunction"), accessFlags := 25, slot := 1, constantValue := 0 }, { name := "IOOBE_FORMATTER", type := (.object "java/util/function/BiFunction"), accessFlags := 25, slot := 2, constantValue := 0 }]
  methods := #[k4m0, k4m1]
  instanceTypes := #[]
  staticTypes := #[(.object "java/util/function/BiFunction"), (.object "java/util/function/BiFunction"), (.object "java/util/function/BiFunction")]
  resolved := Array.replicate 194 none
  statics := none }

def pool5 : Array CpInfo := pool [(1, u "java/lang/Cloneable"), (0, .class_ 1), (0, u "java/lang/Object"), (0, .class_ 3)] 3

/-- java/lang/Cloneable -/
def k5 : Class := { plain "java/lang/Cloneable" (some 0) with
  accessFlags := 1537
  interfaces := #[]
  cf := some (fileOf pool5 2 #[] #[] 1537 4 #[] #[])
  fields := #[]
  methods := #[]
  instanceTypes := #[]
  staticTypes := #[]
  resolved := Array.replicate 8 none
  statics := none }

def pool6 : Array CpInfo := pool [(1, u "java/io/Serializable"), (0, .class_ 1), (0, u "java/lang/Object"), (0, .class_ 3)] 3

/-- java/io/Serializable -/
def k6 : Class := { plain "java/io/Serializable" (some 0) with
  accessFlags := 1537
  interfaces := #[]
  cf := some (fileOf pool6 2 #[] #[] 1537 4 #[] #[])
  fields := #[]
  methods := #[]
  instanceTypes := #[]
  staticTypes := #[]
  resolved := Array.replicate 8 none
  statics := none }

/-- the primitive byte -/
def k7 : Class := { plain "byte" none with kind := .primitive 'B', accessFlags := 0x411 }
/-- [B -/
def k8 : Class := { plain "[B" (some 0) with kind := .array 7 .byte, interfaces := #[5, 6], accessFlags := 1041 }

/-- the primitive int -/
def k9 : Class := { plain "int" none with kind := .primitive 'I', accessFlags := 0x411 }
/-- [I -/
def k10 : Class := { plain "[I" (some 0) with kind := .array 9 .int, interfaces := #[5, 6], accessFlags := 1041 }

/-- the primitive double -/
def k11 : Class := { plain "double" none with kind := .primitive 'D', accessFlags := 0x411 }
/-- [D -/
def k12 : Class := { plain "[D" (some 0) with kind := .array 11 .double, interfaces := #[5, 6], accessFlags := 1041 }

def heap : Heap := #[]
def classes : Array Class := #[k0, k1, k2, k3, k4, k5, k6, k7, k8, k9, k10, k11, k12]
def interned : List (Array UInt16 × Addr) := []
def slotsUsed : Nat := 0
def theMethod : MethodId := ⟨1, 2⟩
def args0 : Array Value := #[.int 5, .int 6, .int 7, .int 8, .int 9, .int 10]
def aboutOver (below : List Frame) : State where
  vm := { classes := classes, interned := interned.toArray }
  heap := heap
  slotsUsed := slotsUsed
  threads := #[{ frames := .invoking theMethod args0 :: below }]
def below0 : List Frame := [.native { method := ⟨0, 0⟩, args := #[] }]
def about1 : State := aboutOver below0
def p0 : Program := .bare "" "" ""
def e0 : Env := launch0.env 0 0 0
theorem w_frames : about1.frames = Frame.invoking theMethod args0 :: below0 := rfl
set_option maxRecDepth 65536 in
theorem w_args : argsFit about1.vm theMethod args0 = true := by decide +kernel
set_option maxRecDepth 65536 in
theorem w_heap : heapFits about1 = true := by decide +kernel
set_option maxRecDepth 65536 in
theorem w_runnable : about1.curStatus? = some .runnable := by decide +kernel
set_option maxRecDepth 65536 in
theorem w_alone : about1.alone = true := by decide +kernel
set_option maxRecDepth 65536 in
theorem w_named : about1.methodNamed? x = some theMethod := by decide +kernel
set_option maxRecDepth 65536 in
theorem w_hears : about1.hears theMethod below0 = true := by decide +kernel
set_option maxRecDepth 65536 in
theorem w_ripe : about1.ripe theMethod args0 below0 = true := by decide +kernel
theorem w_running : about1.status = .running := rfl
set_option maxRecDepth 65536 in
theorem w_room : about1.hasRoom e0.platform room_1 = true :=
  launch0.hasRoom_least _ room_1 (by decide +kernel) (by decide +kernel) (by decide +kernel) (by decide +kernel) (by decide +kernel) (by decide +kernel)
theorem allAtoms_all (ts : List Jvm.Cond) (a : Array Jvm.Value) (st : Jvm.State) : (allAtoms ts).before a st = ts.all (fun c => c.before a st) := by
  induction ts with
  | nil => rfl
  | cons c t ih =>
    show (Jvm.Cond.and c (allAtoms t)).before a st = _
    rw [Jvm.Cond.before_and, ih, List.all_cons]
def words1 : List Jvm.Cond := Jvm.Cond.code x code maxLocals ret :: tables_1
/-- a 'code' word, met by the world's own term for the bytes: nothing is compared byte by byte -/
theorem code_word {y : MethodName} {bytes : ByteArray} {mx : Nat} {rt : Option FieldType} {a : Array Value} {s : State} {m : MethodId} {meth : Method} {c : Code} (h1 : s.methodNamed? y = some m) (h2 : s.vm.method? m = some meth) (h3 : meth.code = some c) (h4 : c.code = bytes)
    (h5 : (c.maxLocals == mx && c.exceptionTable.isEmpty && decide (c.maxStack ≤ mostOperands) && decide (meth.sig.returnType = rt) && !meth.locks && decide (parseMethodDescriptor y.desc = some meth.sig)) = true) : (Jvm.Cond.code y bytes mx rt).before a s = true := by
  simp only [Bool.and_eq_true, beq_iff_eq, Bool.not_eq_true', decide_eq_true_eq] at h5
  obtain ⟨⟨⟨⟨⟨g1, g2⟩, g3⟩, g4⟩, g5⟩, g6⟩ := h5
  simp [Cond.before, Cond.holds, Cond.value, h1, h2, h3, h4, g1, g2, g3, g4, g5, g6]
def isCode : Jvm.Cond → Bool
  | .code _ _ _ _ => true
  | _ => false
theorem all_split {L : List Jvm.Cond} {P : Jvm.Cond → Bool} (h1 : L.all (fun c => isCode c || P c) = true) (h2 : ∀ c ∈ L.filter isCode, P c = true) : L.all P = true := by
  refine List.all_eq_true.mpr fun c hc => ?_
  have h := List.all_eq_true.mp h1 c hc
  rcases Bool.eq_false_or_eq_true (isCode c) with hi | hi
  · exact h2 c (List.mem_filter.mpr ⟨hc, hi⟩)
  · simpa [hi] using h
set_option maxRecDepth 65536 in
theorem w_c0 : (Jvm.Cond.code x code maxLocals ret).before args0 about1 = true := code_word (m := ⟨1, 2⟩) (meth := k1m2) (c := k1c2) (by decide +kernel) rfl rfl rfl (by decide +kernel)
set_option maxRecDepth 65536 in
theorem w_c1 : (Jvm.Cond.code ({ cls := "com/example/demeter/demeter/engine/index/Postings", name := "<init>", desc := "([I[DII)V" } : Jvm.MethodName) prog_12_method_1_code (5 : Nat) (Option.none : Option Jvm.ClassFile.FieldType)).before args0 about1 = true := code_word (m := ⟨2, 0⟩) (meth := k2m0) (c := k2c0) (by decide +kernel) rfl rfl rfl (by decide +kernel)
set_option maxRecDepth 65536 in
theorem w_c2 : (Jvm.Cond.code ({ cls := "java/lang/Object", name := "<init>", desc := "()V" } : Jvm.MethodName) object_method_1_code (1 : Nat) (Option.none : Option Jvm.ClassFile.FieldType)).before args0 about1 = true := code_word (m := ⟨0, 0⟩) (meth := k0m0) (c := k0c0) (by decide +kernel) rfl rfl rfl (by decide +kernel)
set_option maxRecDepth 65536 in
theorem w_c3 : (Jvm.Cond.code ({ cls := "com/example/demeter/demeter/engine/index/Postings", name := "document", desc := "(I)I" } : Jvm.MethodName) prog_12_method_3_code (2 : Nat) (Option.some Jvm.ClassFile.FieldType.int)).before args0 about1 = true := code_word (m := ⟨2, 2⟩) (meth := k2m2) (c := k2c2) (by decide +kernel) rfl rfl rfl (by decide +kernel)
set_option maxRecDepth 65536 in
theorem w_c4 : (Jvm.Cond.code ({ cls := "java/util/Objects", name := "checkIndex", desc := "(II)I" } : Jvm.MethodName) jdk_31_method_17_code (2 : Nat) (Option.some Jvm.ClassFile.FieldType.int)).before args0 about1 = true := code_word (m := ⟨3, 1⟩) (meth := k3m1) (c := k3c1) (by decide +kernel) rfl rfl rfl (by decide +kernel)
set_option maxRecDepth 65536 in
theorem w_c5 : (Jvm.Cond.code ({ cls := "jdk/internal/util/Preconditions", name := "checkIndex", desc := "(IILjava/util/function/BiFunction;)I" } : Jvm.MethodName) jdk_41_method_11_code (3 : Nat) (Option.some Jvm.ClassFile.FieldType.int)).before args0 about1 = true := code_word (m := ⟨4, 1⟩) (meth := k4m1) (c := k4c1) (by decide +kernel) rfl rfl rfl (by decide +kernel)
set_option maxRecDepth 65536 in
theorem w_c6 : (Jvm.Cond.code ({ cls := "com/example/demeter/demeter/engine/index/PostingsDocumentPinLaw", name := "pick", desc := "(IIIII)I" } : Jvm.MethodName) method_2_code (5 : Nat) (Option.some Jvm.ClassFile.FieldType.int)).before args0 about1 = true := code_word (m := ⟨1, 1⟩) (meth := k1m1) (c := k1c1) (by decide +kernel) rfl rfl rfl (by decide +kernel)
set_option maxRecDepth 65536 in
theorem w_c7 : (Jvm.Cond.code ({ cls := "com/example/demeter/demeter/engine/index/Postings", name := "size", desc := "()I" } : Jvm.MethodName) prog_12_method_2_code (1 : Nat) (Option.some Jvm.ClassFile.FieldType.int)).before args0 about1 = true := code_word (m := ⟨2, 1⟩) (meth := k2m1) (c := k2c1) (by decide +kernel) rfl rfl rfl (by decide +kernel)
def codes1 : List Jvm.Cond := [Jvm.Cond.code x code maxLocals ret, Jvm.Cond.code ({ cls := "com/example/demeter/demeter/engine/index/Postings", name := "<init>", desc := "([I[DII)V" } : Jvm.MethodName) prog_12_method_1_code (5 : Nat) (Option.none : Option Jvm.ClassFile.FieldType), Jvm.Cond.code ({ cls := "java/lang/Object", name := "<init>", desc := "()V" } : Jvm.MethodName) object_method_1_code (1 : Nat) (Option.none : Option Jvm.ClassFile.FieldType), Jvm.Cond.code ({ cls := "com/example/demeter/demeter/engine/index/Postings", name := "document", desc := "(I)I" } : Jvm.MethodName) prog_12_method_3_code (2 : Nat) (Option.some Jvm.ClassFile.FieldType.int), Jvm.Cond.code ({ cls := "java/util/Objects", name := "checkIndex", desc := "(II)I" } : Jvm.MethodName) jdk_31_method_17_code (2 : Nat) (Option.some Jvm.ClassFile.FieldType.int), Jvm.Cond.code ({ cls := "jdk/internal/util/Preconditions", name := "checkIndex", desc := "(IILjava/util/function/BiFunction;)I" } : Jvm.MethodName) jdk_41_method_11_code (3 : Nat) (Option.some Jvm.ClassFile.FieldType.int), Jvm.Cond.code ({ cls := "com/example/demeter/demeter/engine/index/PostingsDocumentPinLaw", name := "pick", desc := "(IIIII)I" } : Jvm.MethodName) method_2_code (5 : Nat) (Option.some Jvm.ClassFile.FieldType.int), Jvm.Cond.code ({ cls := "com/example/demeter/demeter/engine/index/Postings", name := "size", desc := "()I" } : Jvm.MethodName) prog_12_method_2_code (1 : Nat) (Option.some Jvm.ClassFile.FieldType.int)]
set_option maxRecDepth 65536 in
theorem codes_eq : words1.filter isCode = codes1 := rfl
theorem w_codes : ∀ c ∈ words1.filter isCode, c.before args0 about1 = true := by
  rw [codes_eq]
  intro c hc
  simp only [codes1, List.mem_cons, List.not_mem_nil, or_false] at hc
  rcases hc with rfl | rfl | rfl | rfl | rfl | rfl | rfl | rfl
  · exact w_c0
  · exact w_c1
  · exact w_c2
  · exact w_c3
  · exact w_c4
  · exact w_c5
  · exact w_c6
  · exact w_c7
set_option maxRecDepth 65536 in
theorem w_t1 : (words1.take 24).all (fun c => isCode c || c.before args0 about1) = true := by decide +kernel
set_option maxRecDepth 65536 in
theorem w_t2 : (words1.drop 24).all (fun c => isCode c || c.before args0 about1) = true := by decide +kernel
theorem w_tables : (allAtoms (Jvm.Cond.code x code maxLocals ret :: tables_1)).before args0 about1 = true := by
  rw [allAtoms_all]
  show words1.all (fun c => c.before args0 about1) = true
  refine all_split ?_ w_codes
  rw [← List.take_append_drop 24 words1, List.all_append, w_t1, w_t2]
  rfl
set_option maxRecDepth 65536 in
theorem w_case : (Jvm.Cond.and given_1 narrow_1).before args0 about1 = true := by decide +kernel
theorem w_applies : (headSpec (Jvm.Cond.code x code maxLocals ret :: tables_1) room_1).applies x e0.platform about1 = true :=
  (Spec.applies_iff w_frames).mpr ⟨w_running, w_runnable, w_alone, w_named, w_hears, w_ripe, w_room, w_tables⟩
theorem atStart : AtStart classFile x code maxLocals ret World_1 tables_1 room_1 Calls_1 rest_1 Pre_1 launch0 p0 e0 about1 theMethod args0 below0 :=
  ⟨lists_1, trivial, launch0.admits_env _ _ _, launch0.least_env, fairChoices_fair.cas, fairChoices_fair.clock, w_frames, w_args, w_heap, w_applies, trivial, trivial, w_case⟩
end start1
theorem witness_1 : WitnessClaimed_1 := ⟨start1.p0, start1.e0, start1.about1, start1.theMethod, start1.args0, start1.below0, start1.atStart⟩
end Jvm.Pilot.@@N@@
