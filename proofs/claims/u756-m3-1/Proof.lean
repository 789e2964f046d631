import JvmDerived
import JvmDerived.Pilot.@@N@@Statement
import JvmDerived.Pilot.@@N@@Code
set_option linter.unusedVariables false
set_option linter.unusedSimpArgs false
namespace Jvm.RoadKit
open Sem ClassFile Op Lib Jvm.Stand Jvm.Free Jvm.LawKit
section New
variable {p : Program} {l : Launch} {e : Env} {R : Room} {s : State} {m : MethodId} {args : Array Value} {below : List Frame} {meth : Method} {c : Code} {T : State} {locs : List Loc} {cells slots : Nat}
theorem retI (X : Stand p l e R s m args below meth c T locs cells slots) (hx : p.tables.exec = Jvm.exec) {pc : Nat} {Ls : Array Slot} {z : Int32} {rest : List Value} (hret : meth.sig.returnType = some .int) (hd : decode c.code pc = .ok (.ireturn, 1)) {fs : List Frame}
    (hl : ∀ (f : JFrame) (acts : List Action), f.method = m → f.locked = none → f.entered = [] → (doReturn e (T.setTop f) acts (some (.int z))).1 = T.setFrames fs) : Steps p.tables e below (T.setTop (mkF m pc Ls (.int z :: rest))) (T.setFrames fs) := by
  have hm' : T.vm.method? m = some meth := X.method'
  have hn : narrow .int (.int z) = .int z := rfl
  show Steps p.tables e below (T.setTop { method := m, pc := pc, locals := Ls, stack := _ :: rest, locked := none }) _
  jvm_step X.here [X.here.top, hx, hd, hm', hret, hn]
  first | (intro acts; rw [hl _ acts rfl rfl rfl]) | rw [hl _ _ rfl rfl rfl]
  exact Steps.refl _
end New
end Jvm.RoadKit
namespace Jvm.Pilot.@@N@@
open Jvm Jvm.ClassFile Sem Op Lib Jvm.Free Jvm.Stand Jvm.LawKit Jvm.RoadKit Bundle Jvm.Pilot.@@N@@.Jvm.D
def QN (r : Int32) (h0 : Heap) (n0 : Nat) (v : Option Value) (h : Heap) (L : List Loc) : Prop := v = some (.int r) ∧ Fr n0 L ∧ h = h0
theorem own_lt {x y : Int32} (h : x.toInt < y.toInt) : x < y := Int32.lt_iff_toInt_lt.mpr h
theorem own_nlt {x y : Int32} (h : ¬ x.toInt < y.toInt) : ¬ x < y := fun q => h (Int32.lt_iff_toInt_lt.mp q)
theorem own_eq {x y : Int32} (h : x.toInt = y.toInt) : x = y := Int32.toInt_inj.mp h
theorem own_ne {x y : Int32} (h : ¬ x.toInt = y.toInt) : ¬ x = y := fun q => h (Int32.toInt_inj.mpr q)
theorem own_n32 {n : Nat} (hn : n ≤ 255) : (Int32.ofNat n).toNatClampNeg = n := by
  rw [Int32.toNatClampNeg, Int32.toInt_ofNat_of_lt (by omega)]; rfl
theorem own_ti {n : Nat} (hn : n ≤ 255) : (Int32.ofNat n).toInt = n := Int32.toInt_ofNat_of_lt (by omega)
theorem own_one (i : Nat) : Int32.ofNat (i + 1) = Int32.ofNat i + (1 : Int32) := Int32.ofNat_add i 1
theorem own_nat {x : Int32} (h0 : 0 ≤ x.toInt) (k : Nat) (hk : x.toInt ≤ k) (hk' : k ≤ 255) : ∃ n : Nat, n ≤ k ∧ x = Int32.ofNat n :=
  ⟨x.toInt.toNat, by omega, own_eq (by rw [own_ti (by omega)]; omega)⟩
/-- a byte's range -/
def own_by (w : Int32) : Prop := -128 ≤ w.toInt ∧ w.toInt < 128
/-- a byte array by a function: its length N, place i holds f i, all bytes -/
def Bt (Z : State) (h : Heap) (a : Addr) (N : Int32) (f : Nat → Int32) : Prop := ∃ c : Cell, Arr Z h a c .byte ∧ c.slots.size = N.toNatClampNeg ∧ ¬ N < 0 ∧ (∀ i, i < c.slots.size → c.slots[i]? = some (.int (f i))) ∧ ∀ i, own_by (f i)
theorem Bt.new {Z : State} {h : Heap} {a : Addr} {k : ClassId} {N : Int32} (A : Arr Z h a (newA k .byte N) .byte) (q : ¬ N < 0) : Bt Z h a N (fun _ => 0) :=
  ⟨_, A, sz_new _ _ _, q, fun i hi => by rw [sz_new] at hi; simp [newA, hi, defaultValue], fun i => by show -128 ≤ (0 : Int32).toInt ∧ (0 : Int32).toInt < 128; decide⟩
theorem Bt.set {Z : State} {h h' : Heap} {a : Addr} {N j x : Int32} {f : Nat → Int32} {c : Cell} (A : Arr Z h a c .byte) (S : c.slots.size = N.toNatClampNeg) (M : ¬ N < 0) (H : ∀ i, i < c.slots.size → c.slots[i]? = some (.int (f i))) (U : ∀ i, own_by (f i)) (W : Wr h h' a j.toNatClampNeg (.int (nar .byte x))) : Bt Z h' a N (fun i => if i = j.toNatClampNeg then nar .byte x else f i) := by
  refine ⟨_, A.same W, by rw [sz_set]; exact S, M, fun i hi => ?_, fun i => ?_⟩
  · rw [sz_set] at hi
    show (c.setSlot j.toNatClampNeg (.int (nar .byte x))).slots[i]? = some (.int (if i = j.toNatClampNeg then nar .byte x else f i))
    by_cases u : i = j.toNatClampNeg
    · rw [if_pos u]; subst u; simp [Cell.setSlot, hi]
    · rw [if_neg u]; simp only [Cell.setSlot]; rw [Array.getElem?_setIfInBounds_ne (fun y => u y.symm)]; exact H i hi
  · show own_by (if i = j.toNatClampNeg then nar .byte x else f i)
    by_cases u : i = j.toNatClampNeg
    · rw [if_pos u]; exact (c_i2b x).2
    · rw [if_neg u]; exact U i
def own_dot (w : Int32) : Prop := w = (46 : Int32) ∨ w = (101 : Int32) ∨ w = (69 : Int32)
def own_wh (f : Nat → Int32) : Nat → Nat → Int32
  | 0, _ => 1
  | k + 1, i => if f i = (46 : Int32) then 0 else if f i = (101 : Int32) then 0 else if f i = (69 : Int32) then 0 else own_wh f k (i + 1)
theorem own_whs (f : Nat → Int32) (k i : Nat) : own_wh f (k + 1) i = if f i = (46 : Int32) then 0 else if f i = (101 : Int32) then 0 else if f i = (69 : Int32) then 0 else own_wh f k (i + 1) := rfl
theorem own_wh01 (f : Nat → Int32) : ∀ k i, own_wh f k i = 0 ∨ own_wh f k i = 1
  | 0, _ => Or.inr rfl
  | k + 1, i => by
    rw [own_whs]
    by_cases h1 : f i = (46 : Int32)
    · rw [if_pos h1]; exact Or.inl rfl
    rw [if_neg h1]
    by_cases h2 : f i = (101 : Int32)
    · rw [if_pos h2]; exact Or.inl rfl
    rw [if_neg h2]
    by_cases h3 : f i = (69 : Int32)
    · rw [if_pos h3]; exact Or.inl rfl
    rw [if_neg h3]
    exact own_wh01 f k (i + 1)
theorem own_whn (f : Nat → Int32) (k i : Nat) : nar .boolean (own_wh f k i) = own_wh f k i := by
  rcases own_wh01 f k i with h | h <;> rw [h] <;> rfl
theorem own_wh1 (f : Nat → Int32) : ∀ k i, (∀ j, i ≤ j → j < i + k → ¬ own_dot (f j)) → own_wh f k i = 1
  | 0, _, _ => rfl
  | k + 1, i, h => by
    have q := h i (Nat.le_refl _) (by omega)
    rw [own_whs]
    rw [if_neg (fun y => q (Or.inl y)), if_neg (fun y => q (Or.inr (Or.inl y))), if_neg (fun y => q (Or.inr (Or.inr y)))]
    exact own_wh1 f k (i + 1) fun j h1 h2 => h j (by omega) (by omega)
theorem own_wh0 (f : Nat → Int32) : ∀ k i j, i ≤ j → j < i + k → own_dot (f j) → own_wh f k i = 0
  | 0, _, _, h1, h2, _ => absurd h2 (by omega)
  | k + 1, i, j, h1, h2, h3 => by
    rw [own_whs]
    by_cases g1 : f i = (46 : Int32)
    · rw [if_pos g1]
    rw [if_neg g1]
    by_cases g2 : f i = (101 : Int32)
    · rw [if_pos g2]
    rw [if_neg g2]
    by_cases g3 : f i = (69 : Int32)
    · rw [if_pos g3]
    rw [if_neg g3]
    have hne : i ≠ j := fun y => by
      subst y
      exact h3.elim g1 (fun y => y.elim g2 g3)
    exact own_wh0 f k (i + 1) j (by omega) (by omega) h3
theorem pn_com_example_lune12_lune12_document_JsonSyntaxIsWholePinLaw : plainName "com/example/lune12/lune12/document/JsonSyntaxIsWholePinLaw" = true := by first | (simp [plainName, overriddenIn]; done) | decide +kernel
theorem ef_1 (m : MethodId) (jw : Int64) (p2 : Int32) (p3 : Int32) : entryFrame m #[(.long jw), (.int p2), (.int p3)] 5 = mkF m 0 #[.val (.long jw), .second, .val (.int p2), .val (.int p3), .unset] [] := by first | (simp [entryFrame, mkF, argsToLocals, Value.category]; done) | rfl
theorem d1_0 : decode method_3_code 0 = .ok (.iload_n 2, 1) := by decide +kernel
theorem d1_1 : decode method_3_code 1 = .ok (.iconst 2, 1) := by decide +kernel
theorem d1_2 : decode method_3_code 2 = .ok (.iload_n 3, 1) := by decide +kernel
theorem d1_3 : decode method_3_code 3 = .ok (.imul, 1) := by decide +kernel
theorem d1_4 : decode method_3_code 4 = .ok (.iushr, 1) := by decide +kernel
theorem d1_5 : decode method_3_code 5 = .ok (.iconst 3, 1) := by decide +kernel
theorem d1_6 : decode method_3_code 6 = .ok (.iand, 1) := by decide +kernel
theorem d1_7 : decode method_3_code 7 = .ok (.istore 4, 2) := by decide +kernel
theorem d1_9 : decode method_3_code 9 = .ok (.iload 4, 2) := by decide +kernel
theorem d1_11 : decode method_3_code 11 = .ok (.ifCond .ne 6, 3) := by decide +kernel
theorem d1_14 : decode method_3_code 14 = .ok (.bipush 46, 2) := by decide +kernel
theorem d1_16 : decode method_3_code 16 = .ok (.ireturn, 1) := by decide +kernel
theorem d1_17 : decode method_3_code 17 = .ok (.iload 4, 2) := by decide +kernel
theorem d1_19 : decode method_3_code 19 = .ok (.iconst 1, 1) := by decide +kernel
theorem d1_20 : decode method_3_code 20 = .ok (.if_icmp .ne 6, 3) := by decide +kernel
theorem d1_23 : decode method_3_code 23 = .ok (.bipush 101, 2) := by decide +kernel
theorem d1_25 : decode method_3_code 25 = .ok (.ireturn, 1) := by decide +kernel
theorem d1_26 : decode method_3_code 26 = .ok (.iload 4, 2) := by decide +kernel
theorem d1_28 : decode method_3_code 28 = .ok (.iconst 2, 1) := by decide +kernel
theorem d1_29 : decode method_3_code 29 = .ok (.if_icmp .ne 6, 3) := by decide +kernel
theorem d1_32 : decode method_3_code 32 = .ok (.bipush 69, 2) := by decide +kernel
theorem d1_34 : decode method_3_code 34 = .ok (.ireturn, 1) := by decide +kernel
theorem d1_35 : decode method_3_code 35 = .ok (.lload_n 0, 1) := by decide +kernel
theorem d1_36 : decode method_3_code 36 = .ok (.bipush 8, 2) := by decide +kernel
theorem d1_38 : decode method_3_code 38 = .ok (.iload_n 3, 1) := by decide +kernel
theorem d1_39 : decode method_3_code 39 = .ok (.imul, 1) := by decide +kernel
theorem d1_40 : decode method_3_code 40 = .ok (.lushr, 1) := by decide +kernel
theorem d1_41 : decode method_3_code 41 = .ok (.l2i, 1) := by decide +kernel
theorem d1_42 : decode method_3_code 42 = .ok (.i2b, 1) := by decide +kernel
theorem d1_43 : decode method_3_code 43 = .ok (.ireturn, 1) := by decide +kernel
def own_pk (jw : Int64) (p2 : Int32) (p3 : Int32) : Int32 := if (((p2.toUInt32 >>> (((2 : Int32) * p3) &&& 31).toUInt32).toInt32) &&& (3 : Int32)) = (0 : Int32) then (nar .byte (46 : Int32)) else if (((p2.toUInt32 >>> (((2 : Int32) * p3) &&& 31).toUInt32).toInt32) &&& (3 : Int32)) = (1 : Int32) then (nar .byte (101 : Int32)) else if (((p2.toUInt32 >>> (((2 : Int32) * p3) &&& 31).toUInt32).toInt32) &&& (3 : Int32)) = (2 : Int32) then (nar .byte (69 : Int32)) else (nar .byte ((((jw.toUInt64 >>> (((8 : Int32) * p3) &&& 0x3f).toInt64.toUInt64).toInt64).toInt32).toInt8.toInt32))
set_option maxRecDepth 65536 in
set_option maxHeartbeats 40000000 in
theorem rm1 (l : Launch) (Z : State) (a0 : Array Value) (hw : ∀ d ∈ tables_1, d.before a0 Z = true) (ws : List Jvm.Cond) (jw : Int64) (p2 : Int32) (p3 : Int32) (h0 : Heap) (n0 : Nat) (Z0 : n0 ≤ h0.size) :
    MetFree l (⟨"com/example/lune12/lune12/document/JsonSyntaxIsWholePinLaw", "pick", "(JII)B"⟩ : MethodName) (head1 (Jvm.Cond.code (⟨"com/example/lune12/lune12/document/JsonSyntaxIsWholePinLaw", "pick", "(JII)B"⟩ : MethodName) method_3_code 5 (some .byte) :: ws) ({ frames := 0, cells := 0, slots := 0, locals := 0 } : Room)) (fun a U => a = #[(.long jw), (.int p2), (.int p3)] ∧ Z.Warmed39 U.vm ∧ U.heap = h0) (fun _ _ _ _ _ => True) (fun _ U o U' => ∃ v L, o = .returned v ∧ QN (own_pk jw p2 p3) h0 n0 v U'.heap L ∧ FrameEnd U o U' L ({ frames := 0, cells := 0, slots := 0, locals := 0 } : Room).cells ({ frames := 0, cells := 0, slots := 0, locals := 0 } : Room).slots) := by
  refine MetFree.of_bodySF (plainFor_of_name pn_com_example_lune12_lune12_document_JsonSyntaxIsWholePinLaw) hisR ?_
  intro p e s m args below meth c s₁ Bd hml0 hP hK
  obtain ⟨rfl, hZ, hh⟩ := hP
  have hx := Bd.exec
  have hby := Bd.bytes
  have hml : c.maxLocals = 5 := hml0
  have hown : s.vm.findClass "com/example/lune12/lune12/document/JsonSyntaxIsWholePinLaw" = some m.cls := findClass_of_methodNamed Bd.named
  have hnm := (name_of_methodNamed Bd.named Bd.method).1
  have X0 : Stand p l e ({ frames := 0, cells := 0, slots := 0, locals := 0 } : Room) s m #[(.long jw), (.int p2), (.int p3)] below meth c s₁ [] 0 0 := Stand.of_body Bd
  have e0 : s₁.heap = h0 := by rw [← hh, Bd.state]; rfl
  have N0 := Fr.nil n0
  have pre0 : ∀ t, Steps p.tables e below (s₁.setTop (mkF m 0 #[.val (.long jw), .second, .val (.int p2), .val (.int p3), .unset] [])) t → Steps p.tables e below (s₁.setTop (entryFrame m #[(.long jw), (.int p2), (.int p3)] 5)) t := fun t k => castTop (ef_1 m jw p2 p3) k
  have q1 : ∀ t, Steps p.tables e below (s₁.setTop (mkF m 11 #[.val (.long jw), .second, .val (.int p2), .val (.int p3), .val (.int (((p2.toUInt32 >>> (((2 : Int32) * p3) &&& 31).toUInt32).toInt32) &&& (3 : Int32)))] [(.int (((p2.toUInt32 >>> (((2 : Int32) * p3) &&& 31).toUInt32).toInt32) &&& (3 : Int32)))])) t → Steps p.tables e below (s₁.setTop (entryFrame m #[(.long jw), (.int p2), (.int p3)] 5)) t := fun t k => pre0 t (by
      show Steps p.tables e below (s₁.setTop (mkF m 0 #[.val (.long jw), .second, .val (.int p2), .val (.int p3), .unset] [])) _
      refine XS.iloadN X0.here hx rfl (hb hby d1_0) rfl ?_
      show Steps p.tables e below (s₁.setTop (mkF m 1 #[.val (.long jw), .second, .val (.int p2), .val (.int p3), .unset] [(.int p2)])) _
      refine XS.iconst X0.here hx rfl (hb hby d1_1) ?_
      show Steps p.tables e below (s₁.setTop (mkF m 2 #[.val (.long jw), .second, .val (.int p2), .val (.int p3), .unset] [(.int (2 : Int32)), (.int p2)])) _
      refine XS.iloadN X0.here hx rfl (hb hby d1_2) rfl ?_
      show Steps p.tables e below (s₁.setTop (mkF m 3 #[.val (.long jw), .second, .val (.int p2), .val (.int p3), .unset] [(.int p3), (.int (2 : Int32)), (.int p2)])) _
      refine XS.imul X0.here hx rfl (hb hby d1_3) rfl ?_
      show Steps p.tables e below (s₁.setTop (mkF m 4 #[.val (.long jw), .second, .val (.int p2), .val (.int p3), .unset] [(.int ((2 : Int32) * p3)), (.int p2)])) _
      refine XS.iushr X0.here hx rfl (hb hby d1_4) rfl ?_
      show Steps p.tables e below (s₁.setTop (mkF m 5 #[.val (.long jw), .second, .val (.int p2), .val (.int p3), .unset] [(.int ((p2.toUInt32 >>> (((2 : Int32) * p3) &&& 31).toUInt32).toInt32))])) _
      refine XS.iconst X0.here hx rfl (hb hby d1_5) ?_
      show Steps p.tables e below (s₁.setTop (mkF m 6 #[.val (.long jw), .second, .val (.int p2), .val (.int p3), .unset] [(.int (3 : Int32)), (.int ((p2.toUInt32 >>> (((2 : Int32) * p3) &&& 31).toUInt32).toInt32))])) _
      refine XS.iand X0.here hx rfl (hb hby d1_6) rfl ?_
      show Steps p.tables e below (s₁.setTop (mkF m 7 #[.val (.long jw), .second, .val (.int p2), .val (.int p3), .unset] [(.int (((p2.toUInt32 >>> (((2 : Int32) * p3) &&& 31).toUInt32).toInt32) &&& (3 : Int32)))])) _
      refine XS.istore X0.here hx rfl (hb hby d1_7) rfl (l' := #[.val (.long jw), .second, .val (.int p2), .val (.int p3), .val (.int (((p2.toUInt32 >>> (((2 : Int32) * p3) &&& 31).toUInt32).toInt32) &&& (3 : Int32)))]) rfl ?_
      show Steps p.tables e below (s₁.setTop (mkF m 9 #[.val (.long jw), .second, .val (.int p2), .val (.int p3), .val (.int (((p2.toUInt32 >>> (((2 : Int32) * p3) &&& 31).toUInt32).toInt32) &&& (3 : Int32)))] [])) _
      refine XS.iload X0.here hx rfl (hb hby d1_9) rfl ?_
      show Steps p.tables e below (s₁.setTop (mkF m 11 #[.val (.long jw), .second, .val (.int p2), .val (.int p3), .val (.int (((p2.toUInt32 >>> (((2 : Int32) * p3) &&& 31).toUInt32).toInt32) &&& (3 : Int32)))] [(.int (((p2.toUInt32 >>> (((2 : Int32) * p3) &&& 31).toUInt32).toInt32) &&& (3 : Int32)))])) _
      exact k)
  by_cases k2 : (((p2.toUInt32 >>> (((2 : Int32) * p3) &&& 31).toUInt32).toInt32) &&& (3 : Int32)) = (0 : Int32)
  · skip
    have q3 : ∀ t, Steps p.tables e below (s₁.setTop (mkF m 16 #[.val (.long jw), .second, .val (.int p2), .val (.int p3), .val (.int (((p2.toUInt32 >>> (((2 : Int32) * p3) &&& 31).toUInt32).toInt32) &&& (3 : Int32)))] [(.int (46 : Int32))])) t → Steps p.tables e below (s₁.setTop (entryFrame m #[(.long jw), (.int p2), (.int p3)] 5)) t := fun t k => q1 t (by
        show Steps p.tables e below (s₁.setTop (mkF m 11 #[.val (.long jw), .second, .val (.int p2), .val (.int p3), .val (.int (((p2.toUInt32 >>> (((2 : Int32) * p3) &&& 31).toUInt32).toInt32) &&& (3 : Int32)))] [(.int (((p2.toUInt32 >>> (((2 : Int32) * p3) &&& 31).toUInt32).toInt32) &&& (3 : Int32)))])) _
        refine XS.ifNo X0.here hx rfl (hb hby d1_11) rfl (XT.i0_ne_f (k2 : (((p2.toUInt32 >>> (((2 : Int32) * p3) &&& 31).toUInt32).toInt32) &&& (3 : Int32)) = (0 : Int32))) ?_
        show Steps p.tables e below (s₁.setTop (mkF m 14 #[.val (.long jw), .second, .val (.int p2), .val (.int p3), .val (.int (((p2.toUInt32 >>> (((2 : Int32) * p3) &&& 31).toUInt32).toInt32) &&& (3 : Int32)))] [])) _
        refine XS.bipush X0.here hx rfl (hb hby d1_14) ?_
        show Steps p.tables e below (s₁.setTop (mkF m 16 #[.val (.long jw), .second, .val (.int p2), .val (.int p3), .val (.int (((p2.toUInt32 >>> (((2 : Int32) * p3) &&& 31).toUInt32).toInt32) &&& (3 : Int32)))] [(.int (46 : Int32))])) _
        exact k)
    obtain ⟨fs, hr, hrun, hended, hW, hsame⟩ := X0.leave (v := some (.int (nar .byte (46 : Int32)))) (fun h => by rw [Bd.returns] at h; cases h)
    refine ⟨_, _, q3 _ ?_, hrun, hended, _, _, rfl, ?_, ⟨_, rfl⟩, hW, hsame.mono (by decide) (by decide)⟩
    · show Steps p.tables e below (s₁.setTop (mkF m 16 #[.val (.long jw), .second, .val (.int p2), .val (.int p3), .val (.int (((p2.toUInt32 >>> (((2 : Int32) * p3) &&& 31).toUInt32).toInt32) &&& (3 : Int32)))] [(.int (46 : Int32))])) _
      exact retN X0 hx (t := .byte) Bd.returns (by simp) (hb hby d1_16) hr
    · show QN (own_pk jw p2 p3) h0 n0 _ s₁.heap _
      exact ⟨by unfold own_pk; rw [if_pos k2], N0, e0⟩
  · skip
    have q4 : ∀ t, Steps p.tables e below (s₁.setTop (mkF m 20 #[.val (.long jw), .second, .val (.int p2), .val (.int p3), .val (.int (((p2.toUInt32 >>> (((2 : Int32) * p3) &&& 31).toUInt32).toInt32) &&& (3 : Int32)))] [(.int (1 : Int32)), (.int (((p2.toUInt32 >>> (((2 : Int32) * p3) &&& 31).toUInt32).toInt32) &&& (3 : Int32)))])) t → Steps p.tables e below (s₁.setTop (entryFrame m #[(.long jw), (.int p2), (.int p3)] 5)) t := fun t k => q1 t (by
        show Steps p.tables e below (s₁.setTop (mkF m 11 #[.val (.long jw), .second, .val (.int p2), .val (.int p3), .val (.int (((p2.toUInt32 >>> (((2 : Int32) * p3) &&& 31).toUInt32).toInt32) &&& (3 : Int32)))] [(.int (((p2.toUInt32 >>> (((2 : Int32) * p3) &&& 31).toUInt32).toInt32) &&& (3 : Int32)))])) _
        refine XS.ifYes X0.here hx rfl (pc0 := 11) (pc' := 17) rfl (hb hby d1_11) rfl (XT.i0_ne_t (k2 : ¬ ((((p2.toUInt32 >>> (((2 : Int32) * p3) &&& 31).toUInt32).toInt32) &&& (3 : Int32)) = (0 : Int32)))) (by decide) (by decide) ?_
        show Steps p.tables e below (s₁.setTop (mkF m 17 #[.val (.long jw), .second, .val (.int p2), .val (.int p3), .val (.int (((p2.toUInt32 >>> (((2 : Int32) * p3) &&& 31).toUInt32).toInt32) &&& (3 : Int32)))] [])) _
        refine XS.iload X0.here hx rfl (hb hby d1_17) rfl ?_
        show Steps p.tables e below (s₁.setTop (mkF m 19 #[.val (.long jw), .second, .val (.int p2), .val (.int p3), .val (.int (((p2.toUInt32 >>> (((2 : Int32) * p3) &&& 31).toUInt32).toInt32) &&& (3 : Int32)))] [(.int (((p2.toUInt32 >>> (((2 : Int32) * p3) &&& 31).toUInt32).toInt32) &&& (3 : Int32)))])) _
        refine XS.iconst X0.here hx rfl (hb hby d1_19) ?_
        show Steps p.tables e below (s₁.setTop (mkF m 20 #[.val (.long jw), .second, .val (.int p2), .val (.int p3), .val (.int (((p2.toUInt32 >>> (((2 : Int32) * p3) &&& 31).toUInt32).toInt32) &&& (3 : Int32)))] [(.int (1 : Int32)), (.int (((p2.toUInt32 >>> (((2 : Int32) * p3) &&& 31).toUInt32).toInt32) &&& (3 : Int32)))])) _
        exact k)
    by_cases k5 : (((p2.toUInt32 >>> (((2 : Int32) * p3) &&& 31).toUInt32).toInt32) &&& (3 : Int32)) = (1 : Int32)
    · skip
      have q6 : ∀ t, Steps p.tables e below (s₁.setTop (mkF m 25 #[.val (.long jw), .second, .val (.int p2), .val (.int p3), .val (.int (((p2.toUInt32 >>> (((2 : Int32) * p3) &&& 31).toUInt32).toInt32) &&& (3 : Int32)))] [(.int (101 : Int32))])) t → Steps p.tables e below (s₁.setTop (entryFrame m #[(.long jw), (.int p2), (.int p3)] 5)) t := fun t k => q4 t (by
          show Steps p.tables e below (s₁.setTop (mkF m 20 #[.val (.long jw), .second, .val (.int p2), .val (.int p3), .val (.int (((p2.toUInt32 >>> (((2 : Int32) * p3) &&& 31).toUInt32).toInt32) &&& (3 : Int32)))] [(.int (1 : Int32)), (.int (((p2.toUInt32 >>> (((2 : Int32) * p3) &&& 31).toUInt32).toInt32) &&& (3 : Int32)))])) _
          refine XS.icmpNo X0.here hx rfl (hb hby d1_20) rfl (XT.ii_ne_f (k5 : (((p2.toUInt32 >>> (((2 : Int32) * p3) &&& 31).toUInt32).toInt32) &&& (3 : Int32)) = (1 : Int32))) ?_
          show Steps p.tables e below (s₁.setTop (mkF m 23 #[.val (.long jw), .second, .val (.int p2), .val (.int p3), .val (.int (((p2.toUInt32 >>> (((2 : Int32) * p3) &&& 31).toUInt32).toInt32) &&& (3 : Int32)))] [])) _
          refine XS.bipush X0.here hx rfl (hb hby d1_23) ?_
          show Steps p.tables e below (s₁.setTop (mkF m 25 #[.val (.long jw), .second, .val (.int p2), .val (.int p3), .val (.int (((p2.toUInt32 >>> (((2 : Int32) * p3) &&& 31).toUInt32).toInt32) &&& (3 : Int32)))] [(.int (101 : Int32))])) _
          exact k)
      obtain ⟨fs, hr, hrun, hended, hW, hsame⟩ := X0.leave (v := some (.int (nar .byte (101 : Int32)))) (fun h => by rw [Bd.returns] at h; cases h)
      refine ⟨_, _, q6 _ ?_, hrun, hended, _, _, rfl, ?_, ⟨_, rfl⟩, hW, hsame.mono (by decide) (by decide)⟩
      · show Steps p.tables e below (s₁.setTop (mkF m 25 #[.val (.long jw), .second, .val (.int p2), .val (.int p3), .val (.int (((p2.toUInt32 >>> (((2 : Int32) * p3) &&& 31).toUInt32).toInt32) &&& (3 : Int32)))] [(.int (101 : Int32))])) _
        exact retN X0 hx (t := .byte) Bd.returns (by simp) (hb hby d1_25) hr
      · show QN (own_pk jw p2 p3) h0 n0 _ s₁.heap _
        exact ⟨by unfold own_pk; rw [if_neg k2, if_pos k5], N0, e0⟩
    · skip
      have q7 : ∀ t, Steps p.tables e below (s₁.setTop (mkF m 29 #[.val (.long jw), .second, .val (.int p2), .val (.int p3), .val (.int (((p2.toUInt32 >>> (((2 : Int32) * p3) &&& 31).toUInt32).toInt32) &&& (3 : Int32)))] [(.int (2 : Int32)), (.int (((p2.toUInt32 >>> (((2 : Int32) * p3) &&& 31).toUInt32).toInt32) &&& (3 : Int32)))])) t → Steps p.tables e below (s₁.setTop (entryFrame m #[(.long jw), (.int p2), (.int p3)] 5)) t := fun t k => q4 t (by
          show Steps p.tables e below (s₁.setTop (mkF m 20 #[.val (.long jw), .second, .val (.int p2), .val (.int p3), .val (.int (((p2.toUInt32 >>> (((2 : Int32) * p3) &&& 31).toUInt32).toInt32) &&& (3 : Int32)))] [(.int (1 : Int32)), (.int (((p2.toUInt32 >>> (((2 : Int32) * p3) &&& 31).toUInt32).toInt32) &&& (3 : Int32)))])) _
          refine XS.icmpYes X0.here hx rfl (pc0 := 20) (pc' := 26) rfl (hb hby d1_20) rfl (XT.ii_ne_t (k5 : ¬ ((((p2.toUInt32 >>> (((2 : Int32) * p3) &&& 31).toUInt32).toInt32) &&& (3 : Int32)) = (1 : Int32)))) (by decide) (by decide) ?_
          show Steps p.tables e below (s₁.setTop (mkF m 26 #[.val (.long jw), .second, .val (.int p2), .val (.int p3), .val (.int (((p2.toUInt32 >>> (((2 : Int32) * p3) &&& 31).toUInt32).toInt32) &&& (3 : Int32)))] [])) _
          refine XS.iload X0.here hx rfl (hb hby d1_26) rfl ?_
          show Steps p.tables e below (s₁.setTop (mkF m 28 #[.val (.long jw), .second, .val (.int p2), .val (.int p3), .val (.int (((p2.toUInt32 >>> (((2 : Int32) * p3) &&& 31).toUInt32).toInt32) &&& (3 : Int32)))] [(.int (((p2.toUInt32 >>> (((2 : Int32) * p3) &&& 31).toUInt32).toInt32) &&& (3 : Int32)))])) _
          refine XS.iconst X0.here hx rfl (hb hby d1_28) ?_
          show Steps p.tables e below (s₁.setTop (mkF m 29 #[.val (.long jw), .second, .val (.int p2), .val (.int p3), .val (.int (((p2.toUInt32 >>> (((2 : Int32) * p3) &&& 31).toUInt32).toInt32) &&& (3 : Int32)))] [(.int (2 : Int32)), (.int (((p2.toUInt32 >>> (((2 : Int32) * p3) &&& 31).toUInt32).toInt32) &&& (3 : Int32)))])) _
          exact k)
      by_cases k8 : (((p2.toUInt32 >>> (((2 : Int32) * p3) &&& 31).toUInt32).toInt32) &&& (3 : Int32)) = (2 : Int32)
      · skip
        have q9 : ∀ t, Steps p.tables e below (s₁.setTop (mkF m 34 #[.val (.long jw), .second, .val (.int p2), .val (.int p3), .val (.int (((p2.toUInt32 >>> (((2 : Int32) * p3) &&& 31).toUInt32).toInt32) &&& (3 : Int32)))] [(.int (69 : Int32))])) t → Steps p.tables e below (s₁.setTop (entryFrame m #[(.long jw), (.int p2), (.int p3)] 5)) t := fun t k => q7 t (by
            show Steps p.tables e below (s₁.setTop (mkF m 29 #[.val (.long jw), .second, .val (.int p2), .val (.int p3), .val (.int (((p2.toUInt32 >>> (((2 : Int32) * p3) &&& 31).toUInt32).toInt32) &&& (3 : Int32)))] [(.int (2 : Int32)), (.int (((p2.toUInt32 >>> (((2 : Int32) * p3) &&& 31).toUInt32).toInt32) &&& (3 : Int32)))])) _
            refine XS.icmpNo X0.here hx rfl (hb hby d1_29) rfl (XT.ii_ne_f (k8 : (((p2.toUInt32 >>> (((2 : Int32) * p3) &&& 31).toUInt32).toInt32) &&& (3 : Int32)) = (2 : Int32))) ?_
            show Steps p.tables e below (s₁.setTop (mkF m 32 #[.val (.long jw), .second, .val (.int p2), .val (.int p3), .val (.int (((p2.toUInt32 >>> (((2 : Int32) * p3) &&& 31).toUInt32).toInt32) &&& (3 : Int32)))] [])) _
            refine XS.bipush X0.here hx rfl (hb hby d1_32) ?_
            show Steps p.tables e below (s₁.setTop (mkF m 34 #[.val (.long jw), .second, .val (.int p2), .val (.int p3), .val (.int (((p2.toUInt32 >>> (((2 : Int32) * p3) &&& 31).toUInt32).toInt32) &&& (3 : Int32)))] [(.int (69 : Int32))])) _
            exact k)
        obtain ⟨fs, hr, hrun, hended, hW, hsame⟩ := X0.leave (v := some (.int (nar .byte (69 : Int32)))) (fun h => by rw [Bd.returns] at h; cases h)
        refine ⟨_, _, q9 _ ?_, hrun, hended, _, _, rfl, ?_, ⟨_, rfl⟩, hW, hsame.mono (by decide) (by decide)⟩
        · show Steps p.tables e below (s₁.setTop (mkF m 34 #[.val (.long jw), .second, .val (.int p2), .val (.int p3), .val (.int (((p2.toUInt32 >>> (((2 : Int32) * p3) &&& 31).toUInt32).toInt32) &&& (3 : Int32)))] [(.int (69 : Int32))])) _
          exact retN X0 hx (t := .byte) Bd.returns (by simp) (hb hby d1_34) hr
        · show QN (own_pk jw p2 p3) h0 n0 _ s₁.heap _
          exact ⟨by unfold own_pk; rw [if_neg k2, if_neg k5, if_pos k8], N0, e0⟩
      · skip
        have q10 : ∀ t, Steps p.tables e below (s₁.setTop (mkF m 43 #[.val (.long jw), .second, .val (.int p2), .val (.int p3), .val (.int (((p2.toUInt32 >>> (((2 : Int32) * p3) &&& 31).toUInt32).toInt32) &&& (3 : Int32)))] [(.int ((((jw.toUInt64 >>> (((8 : Int32) * p3) &&& 0x3f).toInt64.toUInt64).toInt64).toInt32).toInt8.toInt32))])) t → Steps p.tables e below (s₁.setTop (entryFrame m #[(.long jw), (.int p2), (.int p3)] 5)) t := fun t k => q7 t (by
            show Steps p.tables e below (s₁.setTop (mkF m 29 #[.val (.long jw), .second, .val (.int p2), .val (.int p3), .val (.int (((p2.toUInt32 >>> (((2 : Int32) * p3) &&& 31).toUInt32).toInt32) &&& (3 : Int32)))] [(.int (2 : Int32)), (.int (((p2.toUInt32 >>> (((2 : Int32) * p3) &&& 31).toUInt32).toInt32) &&& (3 : Int32)))])) _
            refine XS.icmpYes X0.here hx rfl (pc0 := 29) (pc' := 35) rfl (hb hby d1_29) rfl (XT.ii_ne_t (k8 : ¬ ((((p2.toUInt32 >>> (((2 : Int32) * p3) &&& 31).toUInt32).toInt32) &&& (3 : Int32)) = (2 : Int32)))) (by decide) (by decide) ?_
            show Steps p.tables e below (s₁.setTop (mkF m 35 #[.val (.long jw), .second, .val (.int p2), .val (.int p3), .val (.int (((p2.toUInt32 >>> (((2 : Int32) * p3) &&& 31).toUInt32).toInt32) &&& (3 : Int32)))] [])) _
            refine XS.lloadN X0.here hx rfl (hb hby d1_35) rfl ?_
            show Steps p.tables e below (s₁.setTop (mkF m 36 #[.val (.long jw), .second, .val (.int p2), .val (.int p3), .val (.int (((p2.toUInt32 >>> (((2 : Int32) * p3) &&& 31).toUInt32).toInt32) &&& (3 : Int32)))] [(.long jw)])) _
            refine XS.bipush X0.here hx rfl (hb hby d1_36) ?_
            show Steps p.tables e below (s₁.setTop (mkF m 38 #[.val (.long jw), .second, .val (.int p2), .val (.int p3), .val (.int (((p2.toUInt32 >>> (((2 : Int32) * p3) &&& 31).toUInt32).toInt32) &&& (3 : Int32)))] [(.int (8 : Int32)), (.long jw)])) _
            refine XS.iloadN X0.here hx rfl (hb hby d1_38) rfl ?_
            show Steps p.tables e below (s₁.setTop (mkF m 39 #[.val (.long jw), .second, .val (.int p2), .val (.int p3), .val (.int (((p2.toUInt32 >>> (((2 : Int32) * p3) &&& 31).toUInt32).toInt32) &&& (3 : Int32)))] [(.int p3), (.int (8 : Int32)), (.long jw)])) _
            refine XS.imul X0.here hx rfl (hb hby d1_39) rfl ?_
            show Steps p.tables e below (s₁.setTop (mkF m 40 #[.val (.long jw), .second, .val (.int p2), .val (.int p3), .val (.int (((p2.toUInt32 >>> (((2 : Int32) * p3) &&& 31).toUInt32).toInt32) &&& (3 : Int32)))] [(.int ((8 : Int32) * p3)), (.long jw)])) _
            refine XS.lushr X0.here hx rfl (hb hby d1_40) rfl ?_
            show Steps p.tables e below (s₁.setTop (mkF m 41 #[.val (.long jw), .second, .val (.int p2), .val (.int p3), .val (.int (((p2.toUInt32 >>> (((2 : Int32) * p3) &&& 31).toUInt32).toInt32) &&& (3 : Int32)))] [(.long ((jw.toUInt64 >>> (((8 : Int32) * p3) &&& 0x3f).toInt64.toUInt64).toInt64))])) _
            refine XS.l2i X0.here hx rfl (hb hby d1_41) rfl ?_
            show Steps p.tables e below (s₁.setTop (mkF m 42 #[.val (.long jw), .second, .val (.int p2), .val (.int p3), .val (.int (((p2.toUInt32 >>> (((2 : Int32) * p3) &&& 31).toUInt32).toInt32) &&& (3 : Int32)))] [(.int (((jw.toUInt64 >>> (((8 : Int32) * p3) &&& 0x3f).toInt64.toUInt64).toInt64).toInt32))])) _
            refine XS.i2b X0.here hx rfl (hb hby d1_42) rfl ?_
            show Steps p.tables e below (s₁.setTop (mkF m 43 #[.val (.long jw), .second, .val (.int p2), .val (.int p3), .val (.int (((p2.toUInt32 >>> (((2 : Int32) * p3) &&& 31).toUInt32).toInt32) &&& (3 : Int32)))] [(.int ((((jw.toUInt64 >>> (((8 : Int32) * p3) &&& 0x3f).toInt64.toUInt64).toInt64).toInt32).toInt8.toInt32))])) _
            exact k)
        obtain ⟨fs, hr, hrun, hended, hW, hsame⟩ := X0.leave (v := some (.int (nar .byte ((((jw.toUInt64 >>> (((8 : Int32) * p3) &&& 0x3f).toInt64.toUInt64).toInt64).toInt32).toInt8.toInt32)))) (fun h => by rw [Bd.returns] at h; cases h)
        refine ⟨_, _, q10 _ ?_, hrun, hended, _, _, rfl, ?_, ⟨_, rfl⟩, hW, hsame.mono (by decide) (by decide)⟩
        · show Steps p.tables e below (s₁.setTop (mkF m 43 #[.val (.long jw), .second, .val (.int p2), .val (.int p3), .val (.int (((p2.toUInt32 >>> (((2 : Int32) * p3) &&& 31).toUInt32).toInt32) &&& (3 : Int32)))] [(.int ((((jw.toUInt64 >>> (((8 : Int32) * p3) &&& 0x3f).toInt64.toUInt64).toInt64).toInt32).toInt8.toInt32))])) _
          exact retN X0 hx (t := .byte) Bd.returns (by simp) (hb hby d1_43) hr
        · show QN (own_pk jw p2 p3) h0 n0 _ s₁.heap _
          exact ⟨by unfold own_pk; rw [if_neg k2, if_neg k5, if_neg k8], N0, e0⟩
theorem ef_2 (m : MethodId) (a1 : Addr) (i1 : Int32) (s1 : Int32) (n1 : Int32) : entryFrame m #[(.ref a1), (.int i1), (.int s1), (.int n1)] 5 = mkF m 0 #[.val (.ref a1), .val (.int i1), .val (.int s1), .val (.int n1), .unset] [] := by first | (simp [entryFrame, mkF, argsToLocals, Value.category]; done) | rfl
theorem d2_0 : decode method_4_code 0 = .ok (.iload_n 1, 1) := by decide +kernel
theorem d2_1 : decode method_4_code 1 = .ok (.iload_n 2, 1) := by decide +kernel
theorem d2_2 : decode method_4_code 2 = .ok (.if_icmp .lt 8, 3) := by decide +kernel
theorem d2_10 : decode method_4_code 10 = .ok (.iconst 0, 1) := by decide +kernel
theorem d2_11 : decode method_4_code 11 = .ok (.ireturn, 1) := by decide +kernel
theorem d2_5 : decode method_4_code 5 = .ok (.iload_n 1, 1) := by decide +kernel
theorem d2_6 : decode method_4_code 6 = .ok (.iload_n 3, 1) := by decide +kernel
theorem d2_7 : decode method_4_code 7 = .ok (.if_icmp .lt 5, 3) := by decide +kernel
theorem d2_12 : decode method_4_code 12 = .ok (.aload_n 0, 1) := by decide +kernel
theorem d2_13 : decode method_4_code 13 = .ok (.iload_n 1, 1) := by decide +kernel
theorem d2_14 : decode method_4_code 14 = .ok (.baload, 1) := by decide +kernel
theorem d2_15 : decode method_4_code 15 = .ok (.sipush 255, 3) := by decide +kernel
theorem d2_18 : decode method_4_code 18 = .ok (.iand, 1) := by decide +kernel
theorem d2_19 : decode method_4_code 19 = .ok (.istore 4, 2) := by decide +kernel
theorem d2_21 : decode method_4_code 21 = .ok (.iload 4, 2) := by decide +kernel
theorem d2_23 : decode method_4_code 23 = .ok (.bipush 46, 2) := by decide +kernel
theorem d2_25 : decode method_4_code 25 = .ok (.if_icmp .eq 17, 3) := by decide +kernel
theorem d2_42 : decode method_4_code 42 = .ok (.iconst 1, 1) := by decide +kernel
theorem d2_43 : decode method_4_code 43 = .ok (.goto 4, 3) := by decide +kernel
theorem d2_47 : decode method_4_code 47 = .ok (.ireturn, 1) := by decide +kernel
theorem d2_28 : decode method_4_code 28 = .ok (.iload 4, 2) := by decide +kernel
theorem d2_30 : decode method_4_code 30 = .ok (.bipush 101, 2) := by decide +kernel
theorem d2_32 : decode method_4_code 32 = .ok (.if_icmp .eq 10, 3) := by decide +kernel
theorem d2_35 : decode method_4_code 35 = .ok (.iload 4, 2) := by decide +kernel
theorem d2_37 : decode method_4_code 37 = .ok (.bipush 69, 2) := by decide +kernel
theorem d2_39 : decode method_4_code 39 = .ok (.if_icmp .ne 7, 3) := by decide +kernel
theorem d2_46 : decode method_4_code 46 = .ok (.iconst 0, 1) := by decide +kernel
def own_stop (i1 : Int32) (s1 : Int32) (n1 : Int32) (w1 : Int32) : Int32 := if i1 < s1 then (0 : Int32) else if i1 < n1 then if (w1 &&& (255 : Int32)) = (46 : Int32) then (1 : Int32) else if (w1 &&& (255 : Int32)) = (101 : Int32) then (1 : Int32) else if (w1 &&& (255 : Int32)) = (69 : Int32) then (1 : Int32) else (0 : Int32) else (0 : Int32)
set_option maxRecDepth 65536 in
set_option maxHeartbeats 40000000 in
theorem rm2 (l : Launch) (Z : State) (a0 : Array Value) (hw : ∀ d ∈ tables_1, d.before a0 Z = true) (ws : List Jvm.Cond) (a1 : Addr) (i1 : Int32) (s1 : Int32) (n1 : Int32) (w1 : Int32) (cl : Cell) (h0 : Heap) (n0 : Nat) (Z0 : n0 ≤ h0.size) (Ar : Arr Z h0 a1 cl .byte) (hin : ¬ (i1 < 0 ∨ cl.slots.size ≤ i1.toNatClampNeg)) (hat : cl.slots[i1.toNatClampNeg]? = some (.int w1)) :
    MetFree l (⟨"com/example/lune12/lune12/document/JsonSyntaxIsWholePinLaw", "stopAt", "([BIII)Z"⟩ : MethodName) (head1 (Jvm.Cond.code (⟨"com/example/lune12/lune12/document/JsonSyntaxIsWholePinLaw", "stopAt", "([BIII)Z"⟩ : MethodName) method_4_code 5 (some .boolean) :: ws) ({ frames := 0, cells := 0, slots := 0, locals := 0 } : Room)) (fun a U => a = #[(.ref a1), (.int i1), (.int s1), (.int n1)] ∧ Z.Warmed39 U.vm ∧ U.heap = h0) (fun _ _ _ _ _ => True) (fun _ U o U' => ∃ v L, o = .returned v ∧ QN (own_stop i1 s1 n1 w1) h0 n0 v U'.heap L ∧ FrameEnd U o U' L ({ frames := 0, cells := 0, slots := 0, locals := 0 } : Room).cells ({ frames := 0, cells := 0, slots := 0, locals := 0 } : Room).slots) := by
  refine MetFree.of_bodySF (plainFor_of_name pn_com_example_lune12_lune12_document_JsonSyntaxIsWholePinLaw) hisR ?_
  intro p e s m args below meth c s₁ Bd hml0 hP hK
  obtain ⟨rfl, hZ, hh⟩ := hP
  have hx := Bd.exec
  have hby := Bd.bytes
  have hml : c.maxLocals = 5 := hml0
  have hown : s.vm.findClass "com/example/lune12/lune12/document/JsonSyntaxIsWholePinLaw" = some m.cls := findClass_of_methodNamed Bd.named
  have hnm := (name_of_methodNamed Bd.named Bd.method).1
  have X0 : Stand p l e ({ frames := 0, cells := 0, slots := 0, locals := 0 } : Room) s m #[(.ref a1), (.int i1), (.int s1), (.int n1)] below meth c s₁ [] 0 0 := Stand.of_body Bd
  have e0 : s₁.heap = h0 := by rw [← hh, Bd.state]; rfl
  have N0 := Fr.nil n0
  have pre0 : ∀ t, Steps p.tables e below (s₁.setTop (mkF m 0 #[.val (.ref a1), .val (.int i1), .val (.int s1), .val (.int n1), .unset] [])) t → Steps p.tables e below (s₁.setTop (entryFrame m #[(.ref a1), (.int i1), (.int s1), (.int n1)] 5)) t := fun t k => castTop (ef_2 m a1 i1 s1 n1) k
  have q11 : ∀ t, Steps p.tables e below (s₁.setTop (mkF m 2 #[.val (.ref a1), .val (.int i1), .val (.int s1), .val (.int n1), .unset] [(.int s1), (.int i1)])) t → Steps p.tables e below (s₁.setTop (entryFrame m #[(.ref a1), (.int i1), (.int s1), (.int n1)] 5)) t := fun t k => pre0 t (by
      show Steps p.tables e below (s₁.setTop (mkF m 0 #[.val (.ref a1), .val (.int i1), .val (.int s1), .val (.int n1), .unset] [])) _
      refine XS.iloadN X0.here hx rfl (hb hby d2_0) rfl ?_
      show Steps p.tables e below (s₁.setTop (mkF m 1 #[.val (.ref a1), .val (.int i1), .val (.int s1), .val (.int n1), .unset] [(.int i1)])) _
      refine XS.iloadN X0.here hx rfl (hb hby d2_1) rfl ?_
      show Steps p.tables e below (s₁.setTop (mkF m 2 #[.val (.ref a1), .val (.int i1), .val (.int s1), .val (.int n1), .unset] [(.int s1), (.int i1)])) _
      exact k)
  by_cases k12 : i1 < s1
  · skip
    have q13 : ∀ t, Steps p.tables e below (s₁.setTop (mkF m 11 #[.val (.ref a1), .val (.int i1), .val (.int s1), .val (.int n1), .unset] [(.int (0 : Int32))])) t → Steps p.tables e below (s₁.setTop (entryFrame m #[(.ref a1), (.int i1), (.int s1), (.int n1)] 5)) t := fun t k => q11 t (by
        show Steps p.tables e below (s₁.setTop (mkF m 2 #[.val (.ref a1), .val (.int i1), .val (.int s1), .val (.int n1), .unset] [(.int s1), (.int i1)])) _
        refine XS.icmpYes X0.here hx rfl (pc0 := 2) (pc' := 10) rfl (hb hby d2_2) rfl (XT.ii_lt_t (k12 : i1 < s1)) (by decide) (by decide) ?_
        show Steps p.tables e below (s₁.setTop (mkF m 10 #[.val (.ref a1), .val (.int i1), .val (.int s1), .val (.int n1), .unset] [])) _
        refine XS.iconst X0.here hx rfl (hb hby d2_10) ?_
        show Steps p.tables e below (s₁.setTop (mkF m 11 #[.val (.ref a1), .val (.int i1), .val (.int s1), .val (.int n1), .unset] [(.int (0 : Int32))])) _
        exact k)
    obtain ⟨fs, hr, hrun, hended, hW, hsame⟩ := X0.leave (v := some (.int (0 : Int32))) (fun h => by rw [Bd.returns] at h; cases h)
    refine ⟨_, _, q13 _ ?_, hrun, hended, _, _, rfl, ?_, ⟨_, rfl⟩, hW, hsame.mono (by decide) (by decide)⟩
    · show Steps p.tables e below (s₁.setTop (mkF m 11 #[.val (.ref a1), .val (.int i1), .val (.int s1), .val (.int n1), .unset] [(.int (0 : Int32))])) _
      exact retN X0 hx (t := .boolean) Bd.returns (by simp) (hb hby d2_11) hr
    · show QN (own_stop i1 s1 n1 w1) h0 n0 _ s₁.heap _
      exact ⟨by unfold own_stop; rw [if_pos k12], N0, e0⟩
  · skip
    have q14 : ∀ t, Steps p.tables e below (s₁.setTop (mkF m 7 #[.val (.ref a1), .val (.int i1), .val (.int s1), .val (.int n1), .unset] [(.int n1), (.int i1)])) t → Steps p.tables e below (s₁.setTop (entryFrame m #[(.ref a1), (.int i1), (.int s1), (.int n1)] 5)) t := fun t k => q11 t (by
        show Steps p.tables e below (s₁.setTop (mkF m 2 #[.val (.ref a1), .val (.int i1), .val (.int s1), .val (.int n1), .unset] [(.int s1), (.int i1)])) _
        refine XS.icmpNo X0.here hx rfl (hb hby d2_2) rfl (XT.ii_lt_f (k12 : ¬ (i1 < s1))) ?_
        show Steps p.tables e below (s₁.setTop (mkF m 5 #[.val (.ref a1), .val (.int i1), .val (.int s1), .val (.int n1), .unset] [])) _
        refine XS.iloadN X0.here hx rfl (hb hby d2_5) rfl ?_
        show Steps p.tables e below (s₁.setTop (mkF m 6 #[.val (.ref a1), .val (.int i1), .val (.int s1), .val (.int n1), .unset] [(.int i1)])) _
        refine XS.iloadN X0.here hx rfl (hb hby d2_6) rfl ?_
        show Steps p.tables e below (s₁.setTop (mkF m 7 #[.val (.ref a1), .val (.int i1), .val (.int s1), .val (.int n1), .unset] [(.int n1), (.int i1)])) _
        exact k)
    by_cases k15 : i1 < n1
    · skip
      have q16 : ∀ t, Steps p.tables e below (s₁.setTop (mkF m 25 #[.val (.ref a1), .val (.int i1), .val (.int s1), .val (.int n1), .val (.int (w1 &&& (255 : Int32)))] [(.int (46 : Int32)), (.int (w1 &&& (255 : Int32)))])) t → Steps p.tables e below (s₁.setTop (entryFrame m #[(.ref a1), (.int i1), (.int s1), (.int n1)] 5)) t := fun t k => q14 t (by
          show Steps p.tables e below (s₁.setTop (mkF m 7 #[.val (.ref a1), .val (.int i1), .val (.int s1), .val (.int n1), .unset] [(.int n1), (.int i1)])) _
          refine XS.icmpYes X0.here hx rfl (pc0 := 7) (pc' := 12) rfl (hb hby d2_7) rfl (XT.ii_lt_t (k15 : i1 < n1)) (by decide) (by decide) ?_
          show Steps p.tables e below (s₁.setTop (mkF m 12 #[.val (.ref a1), .val (.int i1), .val (.int s1), .val (.int n1), .unset] [])) _
          refine XS.aloadN X0.here hx rfl (hb hby d2_12) rfl rfl ?_
          show Steps p.tables e below (s₁.setTop (mkF m 13 #[.val (.ref a1), .val (.int i1), .val (.int s1), .val (.int n1), .unset] [(.ref a1)])) _
          refine XS.iloadN X0.here hx rfl (hb hby d2_13) rfl ?_
          show Steps p.tables e below (s₁.setTop (mkF m 14 #[.val (.ref a1), .val (.int i1), .val (.int s1), .val (.int n1), .unset] [(.int i1), (.ref a1)])) _
          refine X0.baloadBytes hx (j := i1) (v := (.int w1)) (by rw [e0]; exact Ar.1) (State.isArrayOf_alike hZ.alike Ar.2.1) Ar.2.2 (hin) (hat) (g := (mkF m 14 #[.val (.ref a1), .val (.int i1), .val (.int s1), .val (.int n1), .unset] [(.int i1), (.ref a1)])) rfl rfl (hb hby d2_14) _ ?_
          show Steps p.tables e below (s₁.setTop (mkF m 15 #[.val (.ref a1), .val (.int i1), .val (.int s1), .val (.int n1), .unset] [(.int w1)])) _
          refine XS.sipush X0.here hx rfl (hb hby d2_15) ?_
          show Steps p.tables e below (s₁.setTop (mkF m 18 #[.val (.ref a1), .val (.int i1), .val (.int s1), .val (.int n1), .unset] [(.int (255 : Int32)), (.int w1)])) _
          refine XS.iand X0.here hx rfl (hb hby d2_18) rfl ?_
          show Steps p.tables e below (s₁.setTop (mkF m 19 #[.val (.ref a1), .val (.int i1), .val (.int s1), .val (.int n1), .unset] [(.int (w1 &&& (255 : Int32)))])) _
          refine XS.istore X0.here hx rfl (hb hby d2_19) rfl (l' := #[.val (.ref a1), .val (.int i1), .val (.int s1), .val (.int n1), .val (.int (w1 &&& (255 : Int32)))]) rfl ?_
          show Steps p.tables e below (s₁.setTop (mkF m 21 #[.val (.ref a1), .val (.int i1), .val (.int s1), .val (.int n1), .val (.int (w1 &&& (255 : Int32)))] [])) _
          refine XS.iload X0.here hx rfl (hb hby d2_21) rfl ?_
          show Steps p.tables e below (s₁.setTop (mkF m 23 #[.val (.ref a1), .val (.int i1), .val (.int s1), .val (.int n1), .val (.int (w1 &&& (255 : Int32)))] [(.int (w1 &&& (255 : Int32)))])) _
          refine XS.bipush X0.here hx rfl (hb hby d2_23) ?_
          show Steps p.tables e below (s₁.setTop (mkF m 25 #[.val (.ref a1), .val (.int i1), .val (.int s1), .val (.int n1), .val (.int (w1 &&& (255 : Int32)))] [(.int (46 : Int32)), (.int (w1 &&& (255 : Int32)))])) _
          exact k)
      by_cases k17 : (w1 &&& (255 : Int32)) = (46 : Int32)
      · skip
        have q18 : ∀ t, Steps p.tables e below (s₁.setTop (mkF m 47 #[.val (.ref a1), .val (.int i1), .val (.int s1), .val (.int n1), .val (.int (w1 &&& (255 : Int32)))] [(.int (1 : Int32))])) t → Steps p.tables e below (s₁.setTop (entryFrame m #[(.ref a1), (.int i1), (.int s1), (.int n1)] 5)) t := fun t k => q16 t (by
            show Steps p.tables e below (s₁.setTop (mkF m 25 #[.val (.ref a1), .val (.int i1), .val (.int s1), .val (.int n1), .val (.int (w1 &&& (255 : Int32)))] [(.int (46 : Int32)), (.int (w1 &&& (255 : Int32)))])) _
            refine XS.icmpYes X0.here hx rfl (pc0 := 25) (pc' := 42) rfl (hb hby d2_25) rfl (XT.ii_eq_t (k17 : (w1 &&& (255 : Int32)) = (46 : Int32))) (by decide) (by decide) ?_
            show Steps p.tables e below (s₁.setTop (mkF m 42 #[.val (.ref a1), .val (.int i1), .val (.int s1), .val (.int n1), .val (.int (w1 &&& (255 : Int32)))] [])) _
            refine XS.iconst X0.here hx rfl (hb hby d2_42) ?_
            show Steps p.tables e below (s₁.setTop (mkF m 43 #[.val (.ref a1), .val (.int i1), .val (.int s1), .val (.int n1), .val (.int (w1 &&& (255 : Int32)))] [(.int (1 : Int32))])) _
            refine XS.goto X0.here hx rfl (pc0 := 43) (pc' := 47) rfl (hb hby d2_43) (by decide) (by decide) ?_
            show Steps p.tables e below (s₁.setTop (mkF m 47 #[.val (.ref a1), .val (.int i1), .val (.int s1), .val (.int n1), .val (.int (w1 &&& (255 : Int32)))] [(.int (1 : Int32))])) _
            exact k)
        obtain ⟨fs, hr, hrun, hended, hW, hsame⟩ := X0.leave (v := some (.int (1 : Int32))) (fun h => by rw [Bd.returns] at h; cases h)
        refine ⟨_, _, q18 _ ?_, hrun, hended, _, _, rfl, ?_, ⟨_, rfl⟩, hW, hsame.mono (by decide) (by decide)⟩
        · show Steps p.tables e below (s₁.setTop (mkF m 47 #[.val (.ref a1), .val (.int i1), .val (.int s1), .val (.int n1), .val (.int (w1 &&& (255 : Int32)))] [(.int (1 : Int32))])) _
          exact retN X0 hx (t := .boolean) Bd.returns (by simp) (hb hby d2_47) hr
        · show QN (own_stop i1 s1 n1 w1) h0 n0 _ s₁.heap _
          exact ⟨by unfold own_stop; rw [if_neg k12, if_pos k15, if_pos k17], N0, e0⟩
      · skip
        have q19 : ∀ t, Steps p.tables e below (s₁.setTop (mkF m 32 #[.val (.ref a1), .val (.int i1), .val (.int s1), .val (.int n1), .val (.int (w1 &&& (255 : Int32)))] [(.int (101 : Int32)), (.int (w1 &&& (255 : Int32)))])) t → Steps p.tables e below (s₁.setTop (entryFrame m #[(.ref a1), (.int i1), (.int s1), (.int n1)] 5)) t := fun t k => q16 t (by
            show Steps p.tables e below (s₁.setTop (mkF m 25 #[.val (.ref a1), .val (.int i1), .val (.int s1), .val (.int n1), .val (.int (w1 &&& (255 : Int32)))] [(.int (46 : Int32)), (.int (w1 &&& (255 : Int32)))])) _
            refine XS.icmpNo X0.here hx rfl (hb hby d2_25) rfl (XT.ii_eq_f (k17 : ¬ ((w1 &&& (255 : Int32)) = (46 : Int32)))) ?_
            show Steps p.tables e below (s₁.setTop (mkF m 28 #[.val (.ref a1), .val (.int i1), .val (.int s1), .val (.int n1), .val (.int (w1 &&& (255 : Int32)))] [])) _
            refine XS.iload X0.here hx rfl (hb hby d2_28) rfl ?_
            show Steps p.tables e below (s₁.setTop (mkF m 30 #[.val (.ref a1), .val (.int i1), .val (.int s1), .val (.int n1), .val (.int (w1 &&& (255 : Int32)))] [(.int (w1 &&& (255 : Int32)))])) _
            refine XS.bipush X0.here hx rfl (hb hby d2_30) ?_
            show Steps p.tables e below (s₁.setTop (mkF m 32 #[.val (.ref a1), .val (.int i1), .val (.int s1), .val (.int n1), .val (.int (w1 &&& (255 : Int32)))] [(.int (101 : Int32)), (.int (w1 &&& (255 : Int32)))])) _
            exact k)
        by_cases k20 : (w1 &&& (255 : Int32)) = (101 : Int32)
        · skip
          have q21 : ∀ t, Steps p.tables e below (s₁.setTop (mkF m 47 #[.val (.ref a1), .val (.int i1), .val (.int s1), .val (.int n1), .val (.int (w1 &&& (255 : Int32)))] [(.int (1 : Int32))])) t → Steps p.tables e below (s₁.setTop (entryFrame m #[(.ref a1), (.int i1), (.int s1), (.int n1)] 5)) t := fun t k => q19 t (by
              show Steps p.tables e below (s₁.setTop (mkF m 32 #[.val (.ref a1), .val (.int i1), .val (.int s1), .val (.int n1), .val (.int (w1 &&& (255 : Int32)))] [(.int (101 : Int32)), (.int (w1 &&& (255 : Int32)))])) _
              refine XS.icmpYes X0.here hx rfl (pc0 := 32) (pc' := 42) rfl (hb hby d2_32) rfl (XT.ii_eq_t (k20 : (w1 &&& (255 : Int32)) = (101 : Int32))) (by decide) (by decide) ?_
              show Steps p.tables e below (s₁.setTop (mkF m 42 #[.val (.ref a1), .val (.int i1), .val (.int s1), .val (.int n1), .val (.int (w1 &&& (255 : Int32)))] [])) _
              refine XS.iconst X0.here hx rfl (hb hby d2_42) ?_
              show Steps p.tables e below (s₁.setTop (mkF m 43 #[.val (.ref a1), .val (.int i1), .val (.int s1), .val (.int n1), .val (.int (w1 &&& (255 : Int32)))] [(.int (1 : Int32))])) _
              refine XS.goto X0.here hx rfl (pc0 := 43) (pc' := 47) rfl (hb hby d2_43) (by decide) (by decide) ?_
              show Steps p.tables e below (s₁.setTop (mkF m 47 #[.val (.ref a1), .val (.int i1), .val (.int s1), .val (.int n1), .val (.int (w1 &&& (255 : Int32)))] [(.int (1 : Int32))])) _
              exact k)
          obtain ⟨fs, hr, hrun, hended, hW, hsame⟩ := X0.leave (v := some (.int (1 : Int32))) (fun h => by rw [Bd.returns] at h; cases h)
          refine ⟨_, _, q21 _ ?_, hrun, hended, _, _, rfl, ?_, ⟨_, rfl⟩, hW, hsame.mono (by decide) (by decide)⟩
          · show Steps p.tables e below (s₁.setTop (mkF m 47 #[.val (.ref a1), .val (.int i1), .val (.int s1), .val (.int n1), .val (.int (w1 &&& (255 : Int32)))] [(.int (1 : Int32))])) _
            exact retN X0 hx (t := .boolean) Bd.returns (by simp) (hb hby d2_47) hr
          · show QN (own_stop i1 s1 n1 w1) h0 n0 _ s₁.heap _
            exact ⟨by unfold own_stop; rw [if_neg k12, if_pos k15, if_neg k17, if_pos k20], N0, e0⟩
        · skip
          have q22 : ∀ t, Steps p.tables e below (s₁.setTop (mkF m 39 #[.val (.ref a1), .val (.int i1), .val (.int s1), .val (.int n1), .val (.int (w1 &&& (255 : Int32)))] [(.int (69 : Int32)), (.int (w1 &&& (255 : Int32)))])) t → Steps p.tables e below (s₁.setTop (entryFrame m #[(.ref a1), (.int i1), (.int s1), (.int n1)] 5)) t := fun t k => q19 t (by
              show Steps p.tables e below (s₁.setTop (mkF m 32 #[.val (.ref a1), .val (.int i1), .val (.int s1), .val (.int n1), .val (.int (w1 &&& (255 : Int32)))] [(.int (101 : Int32)), (.int (w1 &&& (255 : Int32)))])) _
              refine XS.icmpNo X0.here hx rfl (hb hby d2_32) rfl (XT.ii_eq_f (k20 : ¬ ((w1 &&& (255 : Int32)) = (101 : Int32)))) ?_
              show Steps p.tables e below (s₁.setTop (mkF m 35 #[.val (.ref a1), .val (.int i1), .val (.int s1), .val (.int n1), .val (.int (w1 &&& (255 : Int32)))] [])) _
              refine XS.iload X0.here hx rfl (hb hby d2_35) rfl ?_
              show Steps p.tables e below (s₁.setTop (mkF m 37 #[.val (.ref a1), .val (.int i1), .val (.int s1), .val (.int n1), .val (.int (w1 &&& (255 : Int32)))] [(.int (w1 &&& (255 : Int32)))])) _
              refine XS.bipush X0.here hx rfl (hb hby d2_37) ?_
              show Steps p.tables e below (s₁.setTop (mkF m 39 #[.val (.ref a1), .val (.int i1), .val (.int s1), .val (.int n1), .val (.int (w1 &&& (255 : Int32)))] [(.int (69 : Int32)), (.int (w1 &&& (255 : Int32)))])) _
              exact k)
          by_cases k23 : (w1 &&& (255 : Int32)) = (69 : Int32)
          · skip
            have q24 : ∀ t, Steps p.tables e below (s₁.setTop (mkF m 47 #[.val (.ref a1), .val (.int i1), .val (.int s1), .val (.int n1), .val (.int (w1 &&& (255 : Int32)))] [(.int (1 : Int32))])) t → Steps p.tables e below (s₁.setTop (entryFrame m #[(.ref a1), (.int i1), (.int s1), (.int n1)] 5)) t := fun t k => q22 t (by
                show Steps p.tables e below (s₁.setTop (mkF m 39 #[.val (.ref a1), .val (.int i1), .val (.int s1), .val (.int n1), .val (.int (w1 &&& (255 : Int32)))] [(.int (69 : Int32)), (.int (w1 &&& (255 : Int32)))])) _
                refine XS.icmpNo X0.here hx rfl (hb hby d2_39) rfl (XT.ii_ne_f (k23 : (w1 &&& (255 : Int32)) = (69 : Int32))) ?_
                show Steps p.tables e below (s₁.setTop (mkF m 42 #[.val (.ref a1), .val (.int i1), .val (.int s1), .val (.int n1), .val (.int (w1 &&& (255 : Int32)))] [])) _
                refine XS.iconst X0.here hx rfl (hb hby d2_42) ?_
                show Steps p.tables e below (s₁.setTop (mkF m 43 #[.val (.ref a1), .val (.int i1), .val (.int s1), .val (.int n1), .val (.int (w1 &&& (255 : Int32)))] [(.int (1 : Int32))])) _
                refine XS.goto X0.here hx rfl (pc0 := 43) (pc' := 47) rfl (hb hby d2_43) (by decide) (by decide) ?_
                show Steps p.tables e below (s₁.setTop (mkF m 47 #[.val (.ref a1), .val (.int i1), .val (.int s1), .val (.int n1), .val (.int (w1 &&& (255 : Int32)))] [(.int (1 : Int32))])) _
                exact k)
            obtain ⟨fs, hr, hrun, hended, hW, hsame⟩ := X0.leave (v := some (.int (1 : Int32))) (fun h => by rw [Bd.returns] at h; cases h)
            refine ⟨_, _, q24 _ ?_, hrun, hended, _, _, rfl, ?_, ⟨_, rfl⟩, hW, hsame.mono (by decide) (by decide)⟩
            · show Steps p.tables e below (s₁.setTop (mkF m 47 #[.val (.ref a1), .val (.int i1), .val (.int s1), .val (.int n1), .val (.int (w1 &&& (255 : Int32)))] [(.int (1 : Int32))])) _
              exact retN X0 hx (t := .boolean) Bd.returns (by simp) (hb hby d2_47) hr
            · show QN (own_stop i1 s1 n1 w1) h0 n0 _ s₁.heap _
              exact ⟨by unfold own_stop; rw [if_neg k12, if_pos k15, if_neg k17, if_neg k20, if_pos k23], N0, e0⟩
          · skip
            have q25 : ∀ t, Steps p.tables e below (s₁.setTop (mkF m 47 #[.val (.ref a1), .val (.int i1), .val (.int s1), .val (.int n1), .val (.int (w1 &&& (255 : Int32)))] [(.int (0 : Int32))])) t → Steps p.tables e below (s₁.setTop (entryFrame m #[(.ref a1), (.int i1), (.int s1), (.int n1)] 5)) t := fun t k => q22 t (by
                show Steps p.tables e below (s₁.setTop (mkF m 39 #[.val (.ref a1), .val (.int i1), .val (.int s1), .val (.int n1), .val (.int (w1 &&& (255 : Int32)))] [(.int (69 : Int32)), (.int (w1 &&& (255 : Int32)))])) _
                refine XS.icmpYes X0.here hx rfl (pc0 := 39) (pc' := 46) rfl (hb hby d2_39) rfl (XT.ii_ne_t (k23 : ¬ ((w1 &&& (255 : Int32)) = (69 : Int32)))) (by decide) (by decide) ?_
                show Steps p.tables e below (s₁.setTop (mkF m 46 #[.val (.ref a1), .val (.int i1), .val (.int s1), .val (.int n1), .val (.int (w1 &&& (255 : Int32)))] [])) _
                refine XS.iconst X0.here hx rfl (hb hby d2_46) ?_
                show Steps p.tables e below (s₁.setTop (mkF m 47 #[.val (.ref a1), .val (.int i1), .val (.int s1), .val (.int n1), .val (.int (w1 &&& (255 : Int32)))] [(.int (0 : Int32))])) _
                exact k)
            obtain ⟨fs, hr, hrun, hended, hW, hsame⟩ := X0.leave (v := some (.int (0 : Int32))) (fun h => by rw [Bd.returns] at h; cases h)
            refine ⟨_, _, q25 _ ?_, hrun, hended, _, _, rfl, ?_, ⟨_, rfl⟩, hW, hsame.mono (by decide) (by decide)⟩
            · show Steps p.tables e below (s₁.setTop (mkF m 47 #[.val (.ref a1), .val (.int i1), .val (.int s1), .val (.int n1), .val (.int (w1 &&& (255 : Int32)))] [(.int (0 : Int32))])) _
              exact retN X0 hx (t := .boolean) Bd.returns (by simp) (hb hby d2_47) hr
            · show QN (own_stop i1 s1 n1 w1) h0 n0 _ s₁.heap _
              exact ⟨by unfold own_stop; rw [if_neg k12, if_pos k15, if_neg k17, if_neg k20, if_neg k23], N0, e0⟩
    · skip
      have q26 : ∀ t, Steps p.tables e below (s₁.setTop (mkF m 11 #[.val (.ref a1), .val (.int i1), .val (.int s1), .val (.int n1), .unset] [(.int (0 : Int32))])) t → Steps p.tables e below (s₁.setTop (entryFrame m #[(.ref a1), (.int i1), (.int s1), (.int n1)] 5)) t := fun t k => q14 t (by
          show Steps p.tables e below (s₁.setTop (mkF m 7 #[.val (.ref a1), .val (.int i1), .val (.int s1), .val (.int n1), .unset] [(.int n1), (.int i1)])) _
          refine XS.icmpNo X0.here hx rfl (hb hby d2_7) rfl (XT.ii_lt_f (k15 : ¬ (i1 < n1))) ?_
          show Steps p.tables e below (s₁.setTop (mkF m 10 #[.val (.ref a1), .val (.int i1), .val (.int s1), .val (.int n1), .unset] [])) _
          refine XS.iconst X0.here hx rfl (hb hby d2_10) ?_
          show Steps p.tables e below (s₁.setTop (mkF m 11 #[.val (.ref a1), .val (.int i1), .val (.int s1), .val (.int n1), .unset] [(.int (0 : Int32))])) _
          exact k)
      obtain ⟨fs, hr, hrun, hended, hW, hsame⟩ := X0.leave (v := some (.int (0 : Int32))) (fun h => by rw [Bd.returns] at h; cases h)
      refine ⟨_, _, q26 _ ?_, hrun, hended, _, _, rfl, ?_, ⟨_, rfl⟩, hW, hsame.mono (by decide) (by decide)⟩
      · show Steps p.tables e below (s₁.setTop (mkF m 11 #[.val (.ref a1), .val (.int i1), .val (.int s1), .val (.int n1), .unset] [(.int (0 : Int32))])) _
        exact retN X0 hx (t := .boolean) Bd.returns (by simp) (hb hby d2_11) hr
      · show QN (own_stop i1 s1 n1 w1) h0 n0 _ s₁.heap _
        exact ⟨by unfold own_stop; rw [if_neg k12, if_neg k15], N0, e0⟩
/-- what stopAt says of place j -/
theorem own_stop_iff {s n j : Nat} (hs : s ≤ 6) (hn : n ≤ 6) (hj : j ≤ 6) {w : Int32} (hw : own_by w) : (own_stop (Int32.ofNat j) (Int32.ofNat s) (Int32.ofNat n) w = 0 → ¬ (s ≤ j ∧ j < n ∧ own_dot w)) ∧ (¬ own_stop (Int32.ofNat j) (Int32.ofNat s) (Int32.ofNat n) w = 0 → s ≤ j ∧ j < n ∧ own_dot w) := by
  have l46 : (46 : Int32).toInt = 46 := rfl
  have l101 : (101 : Int32).toInt = 101 := rfl
  have l69 : (69 : Int32).toInt = 69 := rfl
  have m : (w &&& (255 : Int32)).toInt = w.toInt % 256 := c_mask w (255 : Int32) 8 (by decide) (by decide)
  obtain ⟨w1, w2⟩ := hw
  have d1 : (w &&& (255 : Int32)) = (46 : Int32) ↔ w = (46 : Int32) := by rw [← Int32.toInt_inj, ← Int32.toInt_inj, m, l46]; omega
  have d2 : (w &&& (255 : Int32)) = (101 : Int32) ↔ w = (101 : Int32) := by rw [← Int32.toInt_inj, ← Int32.toInt_inj, m, l101]; omega
  have d3 : (w &&& (255 : Int32)) = (69 : Int32) ↔ w = (69 : Int32) := by rw [← Int32.toInt_inj, ← Int32.toInt_inj, m, l69]; omega
  have c1 : Int32.ofNat j < Int32.ofNat s ↔ j < s := by rw [Int32.lt_iff_toInt_lt, own_ti (by omega), own_ti (by omega)]; omega
  have c2 : Int32.ofNat j < Int32.ofNat n ↔ j < n := by rw [Int32.lt_iff_toInt_lt, own_ti (by omega), own_ti (by omega)]; omega
  unfold own_stop own_dot
  by_cases h1 : Int32.ofNat j < Int32.ofNat s
  · rw [if_pos h1]; exact ⟨fun _ q => absurd (c1.mp h1) (by omega), fun q => absurd rfl q⟩
  rw [if_neg h1]
  have h1' : s ≤ j := Nat.le_of_not_lt fun y => h1 (c1.mpr y)
  by_cases h2 : Int32.ofNat j < Int32.ofNat n
  · rw [if_pos h2]
    have h2' := c2.mp h2
    by_cases g1 : (w &&& (255 : Int32)) = (46 : Int32)
    · rw [if_pos g1]; exact ⟨fun q => absurd q (by decide), fun _ => ⟨h1', h2', Or.inl (d1.mp g1)⟩⟩
    rw [if_neg g1]
    by_cases g2 : (w &&& (255 : Int32)) = (101 : Int32)
    · rw [if_pos g2]; exact ⟨fun q => absurd q (by decide), fun _ => ⟨h1', h2', Or.inr (Or.inl (d2.mp g2))⟩⟩
    rw [if_neg g2]
    by_cases g3 : (w &&& (255 : Int32)) = (69 : Int32)
    · rw [if_pos g3]; exact ⟨fun q => absurd q (by decide), fun _ => ⟨h1', h2', Or.inr (Or.inr (d3.mp g3))⟩⟩
    rw [if_neg g3]
    exact ⟨fun _ q => q.2.2.elim (fun y => g1 (d1.mpr y)) (fun y => y.elim (fun y => g2 (d2.mpr y)) (fun y => g3 (d3.mpr y))), fun q => absurd rfl q⟩
  · rw [if_neg h2]; exact ⟨fun _ q => h2 (c2.mpr q.2.1), fun q => absurd rfl q⟩
theorem own_no {f : Nat → Int32} {s n : Nat} (hn : n ≤ 6) (k0 : ¬ (s ≤ 0 ∧ 0 < n ∧ own_dot (f 0))) (k1 : ¬ (s ≤ 1 ∧ 1 < n ∧ own_dot (f 1))) (k2 : ¬ (s ≤ 2 ∧ 2 < n ∧ own_dot (f 2))) (k3 : ¬ (s ≤ 3 ∧ 3 < n ∧ own_dot (f 3))) (k4 : ¬ (s ≤ 4 ∧ 4 < n ∧ own_dot (f 4))) (k5 : ¬ (s ≤ 5 ∧ 5 < n ∧ own_dot (f 5))) : own_wh f (n - s) s = 1 := by
  refine own_wh1 f (n - s) s fun j h1 h2 h3 => ?_
  have h4 : j < n := by omega
  have h5 : j = 0 ∨ j = 1 ∨ j = 2 ∨ j = 3 ∨ j = 4 ∨ j = 5 := by omega
  rcases h5 with rfl | rfl | rfl | rfl | rfl | rfl
  · exact k0 ⟨h1, h4, h3⟩
  · exact k1 ⟨h1, h4, h3⟩
  · exact k2 ⟨h1, h4, h3⟩
  · exact k3 ⟨h1, h4, h3⟩
  · exact k4 ⟨h1, h4, h3⟩
  · exact k5 ⟨h1, h4, h3⟩
theorem own_yes {f : Nat → Int32} {s n j : Nat} (k : s ≤ j ∧ j < n ∧ own_dot (f j)) : own_wh f (n - s) s = 0 := own_wh0 f (n - s) s j k.1 (by omega) k.2.2
theorem d3_5 : decode prog_33_method_8_code 5 = .ok (.iload 4, 2) := by decide +kernel
theorem d3_7 : decode prog_33_method_8_code 7 = .ok (.iload_n 2, 1) := by decide +kernel
theorem d3_8 : decode prog_33_method_8_code 8 = .ok (.if_icmp .ge 46, 3) := by decide +kernel
theorem d3_11 : decode prog_33_method_8_code 11 = .ok (.iload_n 3, 1) := by decide +kernel
theorem d3_12 : decode prog_33_method_8_code 12 = .ok (.ifCond .eq 42, 3) := by decide +kernel
theorem d3_15 : decode prog_33_method_8_code 15 = .ok (.aload_n 0, 1) := by decide +kernel
theorem d3_16 : decode prog_33_method_8_code 16 = .ok (.iload 4, 2) := by decide +kernel
theorem d3_18 : decode prog_33_method_8_code 18 = .ok (.baload, 1) := by decide +kernel
theorem d3_19 : decode prog_33_method_8_code 19 = .ok (.istore 5, 2) := by decide +kernel
theorem d3_21 : decode prog_33_method_8_code 21 = .ok (.iload 5, 2) := by decide +kernel
theorem d3_23 : decode prog_33_method_8_code 23 = .ok (.bipush 46, 2) := by decide +kernel
theorem d3_25 : decode prog_33_method_8_code 25 = .ok (.if_icmp .eq 21, 3) := by decide +kernel
theorem d3_46 : decode prog_33_method_8_code 46 = .ok (.iconst 0, 1) := by decide +kernel
theorem d3_47 : decode prog_33_method_8_code 47 = .ok (.istore_n 3, 1) := by decide +kernel
theorem d3_48 : decode prog_33_method_8_code 48 = .ok (.iinc 4 1, 3) := by decide +kernel
theorem d3_51 : decode prog_33_method_8_code 51 = .ok (.goto (-46), 3) := by decide +kernel
theorem d3_28 : decode prog_33_method_8_code 28 = .ok (.iload 5, 2) := by decide +kernel
theorem d3_30 : decode prog_33_method_8_code 30 = .ok (.bipush 101, 2) := by decide +kernel
theorem d3_32 : decode prog_33_method_8_code 32 = .ok (.if_icmp .eq 14, 3) := by decide +kernel
theorem d3_35 : decode prog_33_method_8_code 35 = .ok (.iload 5, 2) := by decide +kernel
theorem d3_37 : decode prog_33_method_8_code 37 = .ok (.bipush 69, 2) := by decide +kernel
theorem d3_39 : decode prog_33_method_8_code 39 = .ok (.if_icmp .eq 7, 3) := by decide +kernel
theorem d3_42 : decode prog_33_method_8_code 42 = .ok (.iconst 1, 1) := by decide +kernel
theorem d3_43 : decode prog_33_method_8_code 43 = .ok (.goto 4, 3) := by decide +kernel
set_option maxRecDepth 65536 in
set_option maxHeartbeats 40000000 in
theorem loop3 {p : Program} {l : Launch} {e : Env} {R : Room} {s : State} {m : MethodId} {args : Array Value} {below : List Frame} {meth : Method} {c : Code} {T0 : State} {locs : List Loc} {cells slots : Nat} {Z : State} {h0 : Heap} (a1 : Addr) (s1 : Slot) (n : Nat) (hn : n ≤ 6) (f : Nat → Int32) (cl : Cell)
    (X0 : Stand p l e R s m args below meth c T0 locs cells slots) (hx : p.tables.exec = Jvm.exec) (hZ : Z.Warmed39 s.vm) (hby : c.code = prog_33_method_8_code) (e0 : T0.heap = h0) (Ar : Arr Z h0 a1 cl .byte) (S : cl.slots.size = 6) (H : ∀ i, i < cl.slots.size → cl.slots[i]? = some (.int (f i))) :
    ∀ (k i : Nat) (s5 : Slot), i ≤ 6 → n - i = k → (s5 = .unset ∨ ∃ w, s5 = .val (.int w)) → ∃ (z : Int32) (s6 : Slot), ∀ t, Steps p.tables e below (T0.setTop (mkF m 54 #[.val (.ref a1), s1, .val (.int (Int32.ofNat n)), .val (.int (own_wh f k i)), .val (.int z), s6] [])) t → Steps p.tables e below (T0.setTop (mkF m 5 #[.val (.ref a1), s1, .val (.int (Int32.ofNat n)), .val (.int (1 : Int32)), .val (.int (Int32.ofNat i)), s5] [])) t := by
  intro k
  induction k with
  | zero =>
    intro i s5 hi hk hs5
    have pre0 : ∀ t, Steps p.tables e below (T0.setTop (mkF m 5 #[.val (.ref a1), s1, .val (.int (Int32.ofNat n)), .val (.int (1 : Int32)), .val (.int (Int32.ofNat i)), s5] [])) t → Steps p.tables e below (T0.setTop (mkF m 5 #[.val (.ref a1), s1, .val (.int (Int32.ofNat n)), .val (.int (1 : Int32)), .val (.int (Int32.ofNat i)), s5] [])) t := fun t k => k
    have q27 : ∀ t, Steps p.tables e below (T0.setTop (mkF m 54 #[.val (.ref a1), s1, .val (.int (Int32.ofNat n)), .val (.int (1 : Int32)), .val (.int (Int32.ofNat i)), s5] [])) t → Steps p.tables e below (T0.setTop (mkF m 5 #[.val (.ref a1), s1, .val (.int (Int32.ofNat n)), .val (.int (1 : Int32)), .val (.int (Int32.ofNat i)), s5] [])) t := fun t k => pre0 t (by
        show Steps p.tables e below (T0.setTop (mkF m 5 #[.val (.ref a1), s1, .val (.int (Int32.ofNat n)), .val (.int (1 : Int32)), .val (.int (Int32.ofNat i)), s5] [])) _
        refine XS.iload X0.here hx rfl (hb hby d3_5) rfl ?_
        show Steps p.tables e below (T0.setTop (mkF m 7 #[.val (.ref a1), s1, .val (.int (Int32.ofNat n)), .val (.int (1 : Int32)), .val (.int (Int32.ofNat i)), s5] [(.int (Int32.ofNat i))])) _
        refine XS.iloadN X0.here hx rfl (hb hby d3_7) rfl ?_
        show Steps p.tables e below (T0.setTop (mkF m 8 #[.val (.ref a1), s1, .val (.int (Int32.ofNat n)), .val (.int (1 : Int32)), .val (.int (Int32.ofNat i)), s5] [(.int (Int32.ofNat n)), (.int (Int32.ofNat i))])) _
        refine XS.icmpYes X0.here hx rfl (pc0 := 8) (pc' := 54) rfl (hb hby d3_8) rfl (XT.ii_ge_t (own_nlt (by rw [own_ti (by omega), own_ti (by omega)]; omega) : ¬ ((Int32.ofNat i) < (Int32.ofNat n)))) (by decide) (by decide) ?_
        show Steps p.tables e below (T0.setTop (mkF m 54 #[.val (.ref a1), s1, .val (.int (Int32.ofNat n)), .val (.int (1 : Int32)), .val (.int (Int32.ofNat i)), s5] [])) _
        exact k)
    exact ⟨_, _, q27⟩
  | succ k ih =>
    intro i s5 hi hk hs5
    have pre0 : ∀ t, Steps p.tables e below (T0.setTop (mkF m 5 #[.val (.ref a1), s1, .val (.int (Int32.ofNat n)), .val (.int (1 : Int32)), .val (.int (Int32.ofNat i)), s5] [])) t → Steps p.tables e below (T0.setTop (mkF m 5 #[.val (.ref a1), s1, .val (.int (Int32.ofNat n)), .val (.int (1 : Int32)), .val (.int (Int32.ofNat i)), s5] [])) t := fun t k => k
    have hin : ¬ (Int32.ofNat i < 0 ∨ cl.slots.size ≤ (Int32.ofNat i).toNatClampNeg) := by rw [S, own_n32 (by omega)]; exact fun y => y.elim (own_nlt (by rw [own_ti (by omega)]; show ¬ (i : Int) < 0; omega)) (fun y => by omega)
    have hat : cl.slots[(Int32.ofNat i).toNatClampNeg]? = some (.int (f i)) := by rw [own_n32 (by omega)]; exact H i (by omega)
    have hst : storeLocals #[.val (.ref a1), s1, .val (.int (Int32.ofNat n)), .val (.int (1 : Int32)), .val (.int (Int32.ofNat i)), s5] 5 (.int (f i)) = some #[.val (.ref a1), s1, .val (.int (Int32.ofNat n)), .val (.int (1 : Int32)), .val (.int (Int32.ofNat i)), .val (.int (f i))] := by rcases hs5 with rfl | ⟨w, rfl⟩ <;> rfl
    have q28 : ∀ t, Steps p.tables e below (T0.setTop (mkF m 25 #[.val (.ref a1), s1, .val (.int (Int32.ofNat n)), .val (.int (1 : Int32)), .val (.int (Int32.ofNat i)), .val (.int (f i))] [(.int (46 : Int32)), (.int (f i))])) t → Steps p.tables e below (T0.setTop (mkF m 5 #[.val (.ref a1), s1, .val (.int (Int32.ofNat n)), .val (.int (1 : Int32)), .val (.int (Int32.ofNat i)), s5] [])) t := fun t k => pre0 t (by
        show Steps p.tables e below (T0.setTop (mkF m 5 #[.val (.ref a1), s1, .val (.int (Int32.ofNat n)), .val (.int (1 : Int32)), .val (.int (Int32.ofNat i)), s5] [])) _
        refine XS.iload X0.here hx rfl (hb hby d3_5) rfl ?_
        show Steps p.tables e below (T0.setTop (mkF m 7 #[.val (.ref a1), s1, .val (.int (Int32.ofNat n)), .val (.int (1 : Int32)), .val (.int (Int32.ofNat i)), s5] [(.int (Int32.ofNat i))])) _
        refine XS.iloadN X0.here hx rfl (hb hby d3_7) rfl ?_
        show Steps p.tables e below (T0.setTop (mkF m 8 #[.val (.ref a1), s1, .val (.int (Int32.ofNat n)), .val (.int (1 : Int32)), .val (.int (Int32.ofNat i)), s5] [(.int (Int32.ofNat n)), (.int (Int32.ofNat i))])) _
        refine XS.icmpNo X0.here hx rfl (hb hby d3_8) rfl (XT.ii_ge_f (own_lt (by rw [own_ti (by omega), own_ti (by omega)]; omega) : (Int32.ofNat i) < (Int32.ofNat n))) ?_
        show Steps p.tables e below (T0.setTop (mkF m 11 #[.val (.ref a1), s1, .val (.int (Int32.ofNat n)), .val (.int (1 : Int32)), .val (.int (Int32.ofNat i)), s5] [])) _
        refine XS.iloadN X0.here hx rfl (hb hby d3_11) rfl ?_
        show Steps p.tables e below (T0.setTop (mkF m 12 #[.val (.ref a1), s1, .val (.int (Int32.ofNat n)), .val (.int (1 : Int32)), .val (.int (Int32.ofNat i)), s5] [(.int (1 : Int32))])) _
        refine XS.ifNo X0.here hx rfl (hb hby d3_12) rfl (XT.i0_eq_f (by decide : ¬ ((1 : Int32) = (0 : Int32)))) ?_
        show Steps p.tables e below (T0.setTop (mkF m 15 #[.val (.ref a1), s1, .val (.int (Int32.ofNat n)), .val (.int (1 : Int32)), .val (.int (Int32.ofNat i)), s5] [])) _
        refine XS.aloadN X0.here hx rfl (hb hby d3_15) rfl rfl ?_
        show Steps p.tables e below (T0.setTop (mkF m 16 #[.val (.ref a1), s1, .val (.int (Int32.ofNat n)), .val (.int (1 : Int32)), .val (.int (Int32.ofNat i)), s5] [(.ref a1)])) _
        refine XS.iload X0.here hx rfl (hb hby d3_16) rfl ?_
        show Steps p.tables e below (T0.setTop (mkF m 18 #[.val (.ref a1), s1, .val (.int (Int32.ofNat n)), .val (.int (1 : Int32)), .val (.int (Int32.ofNat i)), s5] [(.int (Int32.ofNat i)), (.ref a1)])) _
        refine X0.baloadBytes hx (j := (Int32.ofNat i)) (v := (.int (f i))) (by rw [e0]; exact Ar.1) (State.isArrayOf_alike hZ.alike Ar.2.1) Ar.2.2 (hin) (hat) (g := (mkF m 18 #[.val (.ref a1), s1, .val (.int (Int32.ofNat n)), .val (.int (1 : Int32)), .val (.int (Int32.ofNat i)), s5] [(.int (Int32.ofNat i)), (.ref a1)])) rfl rfl (hb hby d3_18) _ ?_
        show Steps p.tables e below (T0.setTop (mkF m 19 #[.val (.ref a1), s1, .val (.int (Int32.ofNat n)), .val (.int (1 : Int32)), .val (.int (Int32.ofNat i)), s5] [(.int (f i))])) _
        refine XS.istore X0.here hx rfl (hb hby d3_19) rfl (l' := #[.val (.ref a1), s1, .val (.int (Int32.ofNat n)), .val (.int (1 : Int32)), .val (.int (Int32.ofNat i)), .val (.int (f i))]) hst ?_
        show Steps p.tables e below (T0.setTop (mkF m 21 #[.val (.ref a1), s1, .val (.int (Int32.ofNat n)), .val (.int (1 : Int32)), .val (.int (Int32.ofNat i)), .val (.int (f i))] [])) _
        refine XS.iload X0.here hx rfl (hb hby d3_21) rfl ?_
        show Steps p.tables e below (T0.setTop (mkF m 23 #[.val (.ref a1), s1, .val (.int (Int32.ofNat n)), .val (.int (1 : Int32)), .val (.int (Int32.ofNat i)), .val (.int (f i))] [(.int (f i))])) _
        refine XS.bipush X0.here hx rfl (hb hby d3_23) ?_
        show Steps p.tables e below (T0.setTop (mkF m 25 #[.val (.ref a1), s1, .val (.int (Int32.ofNat n)), .val (.int (1 : Int32)), .val (.int (Int32.ofNat i)), .val (.int (f i))] [(.int (46 : Int32)), (.int (f i))])) _
        exact k)
    by_cases k29 : (f i) = (46 : Int32)
    · skip
      have hv : own_wh f (k + 1) i = 0 := by rw [own_whs, if_pos k29]
      rw [hv]
      have q30 : ∀ t, Steps p.tables e below (T0.setTop (mkF m 8 #[.val (.ref a1), s1, .val (.int (Int32.ofNat n)), .val (.int (0 : Int32)), .val (.int ((Int32.ofNat i) + (1 : Int32))), .val (.int (f i))] [(.int (Int32.ofNat n)), (.int ((Int32.ofNat i) + (1 : Int32)))])) t → Steps p.tables e below (T0.setTop (mkF m 5 #[.val (.ref a1), s1, .val (.int (Int32.ofNat n)), .val (.int (1 : Int32)), .val (.int (Int32.ofNat i)), s5] [])) t := fun t k => q28 t (by
          show Steps p.tables e below (T0.setTop (mkF m 25 #[.val (.ref a1), s1, .val (.int (Int32.ofNat n)), .val (.int (1 : Int32)), .val (.int (Int32.ofNat i)), .val (.int (f i))] [(.int (46 : Int32)), (.int (f i))])) _
          refine XS.icmpYes X0.here hx rfl (pc0 := 25) (pc' := 46) rfl (hb hby d3_25) rfl (XT.ii_eq_t (k29 : (f i) = (46 : Int32))) (by decide) (by decide) ?_
          show Steps p.tables e below (T0.setTop (mkF m 46 #[.val (.ref a1), s1, .val (.int (Int32.ofNat n)), .val (.int (1 : Int32)), .val (.int (Int32.ofNat i)), .val (.int (f i))] [])) _
          refine XS.iconst X0.here hx rfl (hb hby d3_46) ?_
          show Steps p.tables e below (T0.setTop (mkF m 47 #[.val (.ref a1), s1, .val (.int (Int32.ofNat n)), .val (.int (1 : Int32)), .val (.int (Int32.ofNat i)), .val (.int (f i))] [(.int (0 : Int32))])) _
          refine XS.istoreN X0.here hx rfl (hb hby d3_47) rfl (l' := #[.val (.ref a1), s1, .val (.int (Int32.ofNat n)), .val (.int (0 : Int32)), .val (.int (Int32.ofNat i)), .val (.int (f i))]) rfl ?_
          show Steps p.tables e below (T0.setTop (mkF m 48 #[.val (.ref a1), s1, .val (.int (Int32.ofNat n)), .val (.int (0 : Int32)), .val (.int (Int32.ofNat i)), .val (.int (f i))] [])) _
          refine XS.iinc X0.here hx rfl (hb hby d3_48) rfl (l' := #[.val (.ref a1), s1, .val (.int (Int32.ofNat n)), .val (.int (0 : Int32)), .val (.int ((Int32.ofNat i) + (1 : Int32))), .val (.int (f i))]) rfl ?_
          show Steps p.tables e below (T0.setTop (mkF m 51 #[.val (.ref a1), s1, .val (.int (Int32.ofNat n)), .val (.int (0 : Int32)), .val (.int ((Int32.ofNat i) + (1 : Int32))), .val (.int (f i))] [])) _
          refine XS.goto X0.here hx rfl (pc0 := 51) (pc' := 5) rfl (hb hby d3_51) (by decide) (by decide) ?_
          show Steps p.tables e below (T0.setTop (mkF m 5 #[.val (.ref a1), s1, .val (.int (Int32.ofNat n)), .val (.int (0 : Int32)), .val (.int ((Int32.ofNat i) + (1 : Int32))), .val (.int (f i))] [])) _
          refine XS.iload X0.here hx rfl (hb hby d3_5) rfl ?_
          show Steps p.tables e below (T0.setTop (mkF m 7 #[.val (.ref a1), s1, .val (.int (Int32.ofNat n)), .val (.int (0 : Int32)), .val (.int ((Int32.ofNat i) + (1 : Int32))), .val (.int (f i))] [(.int ((Int32.ofNat i) + (1 : Int32)))])) _
          refine XS.iloadN X0.here hx rfl (hb hby d3_7) rfl ?_
          show Steps p.tables e below (T0.setTop (mkF m 8 #[.val (.ref a1), s1, .val (.int (Int32.ofNat n)), .val (.int (0 : Int32)), .val (.int ((Int32.ofNat i) + (1 : Int32))), .val (.int (f i))] [(.int (Int32.ofNat n)), (.int ((Int32.ofNat i) + (1 : Int32)))])) _
          exact k)
      by_cases k31 : ((Int32.ofNat i) + (1 : Int32)) < (Int32.ofNat n)
      · skip
        have q32 : ∀ t, Steps p.tables e below (T0.setTop (mkF m 54 #[.val (.ref a1), s1, .val (.int (Int32.ofNat n)), .val (.int (0 : Int32)), .val (.int ((Int32.ofNat i) + (1 : Int32))), .val (.int (f i))] [])) t → Steps p.tables e below (T0.setTop (mkF m 5 #[.val (.ref a1), s1, .val (.int (Int32.ofNat n)), .val (.int (1 : Int32)), .val (.int (Int32.ofNat i)), s5] [])) t := fun t k => q30 t (by
            show Steps p.tables e below (T0.setTop (mkF m 8 #[.val (.ref a1), s1, .val (.int (Int32.ofNat n)), .val (.int (0 : Int32)), .val (.int ((Int32.ofNat i) + (1 : Int32))), .val (.int (f i))] [(.int (Int32.ofNat n)), (.int ((Int32.ofNat i) + (1 : Int32)))])) _
            refine XS.icmpNo X0.here hx rfl (hb hby d3_8) rfl (XT.ii_ge_f (k31 : ((Int32.ofNat i) + (1 : Int32)) < (Int32.ofNat n))) ?_
            show Steps p.tables e below (T0.setTop (mkF m 11 #[.val (.ref a1), s1, .val (.int (Int32.ofNat n)), .val (.int (0 : Int32)), .val (.int ((Int32.ofNat i) + (1 : Int32))), .val (.int (f i))] [])) _
            refine XS.iloadN X0.here hx rfl (hb hby d3_11) rfl ?_
            show Steps p.tables e below (T0.setTop (mkF m 12 #[.val (.ref a1), s1, .val (.int (Int32.ofNat n)), .val (.int (0 : Int32)), .val (.int ((Int32.ofNat i) + (1 : Int32))), .val (.int (f i))] [(.int (0 : Int32))])) _
            refine XS.ifYes X0.here hx rfl (pc0 := 12) (pc' := 54) rfl (hb hby d3_12) rfl (XT.i0_eq_t (rfl : (0 : Int32) = (0 : Int32))) (by decide) (by decide) ?_
            show Steps p.tables e below (T0.setTop (mkF m 54 #[.val (.ref a1), s1, .val (.int (Int32.ofNat n)), .val (.int (0 : Int32)), .val (.int ((Int32.ofNat i) + (1 : Int32))), .val (.int (f i))] [])) _
            exact k)
        exact ⟨_, _, q32⟩
      · skip
        have q33 : ∀ t, Steps p.tables e below (T0.setTop (mkF m 54 #[.val (.ref a1), s1, .val (.int (Int32.ofNat n)), .val (.int (0 : Int32)), .val (.int ((Int32.ofNat i) + (1 : Int32))), .val (.int (f i))] [])) t → Steps p.tables e below (T0.setTop (mkF m 5 #[.val (.ref a1), s1, .val (.int (Int32.ofNat n)), .val (.int (1 : Int32)), .val (.int (Int32.ofNat i)), s5] [])) t := fun t k => q30 t (by
            show Steps p.tables e below (T0.setTop (mkF m 8 #[.val (.ref a1), s1, .val (.int (Int32.ofNat n)), .val (.int (0 : Int32)), .val (.int ((Int32.ofNat i) + (1 : Int32))), .val (.int (f i))] [(.int (Int32.ofNat n)), (.int ((Int32.ofNat i) + (1 : Int32)))])) _
            refine XS.icmpYes X0.here hx rfl (pc0 := 8) (pc' := 54) rfl (hb hby d3_8) rfl (XT.ii_ge_t (k31 : ¬ (((Int32.ofNat i) + (1 : Int32)) < (Int32.ofNat n)))) (by decide) (by decide) ?_
            show Steps p.tables e below (T0.setTop (mkF m 54 #[.val (.ref a1), s1, .val (.int (Int32.ofNat n)), .val (.int (0 : Int32)), .val (.int ((Int32.ofNat i) + (1 : Int32))), .val (.int (f i))] [])) _
            exact k)
        exact ⟨_, _, q33⟩
    · skip
      have q34 : ∀ t, Steps p.tables e below (T0.setTop (mkF m 32 #[.val (.ref a1), s1, .val (.int (Int32.ofNat n)), .val (.int (1 : Int32)), .val (.int (Int32.ofNat i)), .val (.int (f i))] [(.int (101 : Int32)), (.int (f i))])) t → Steps p.tables e below (T0.setTop (mkF m 5 #[.val (.ref a1), s1, .val (.int (Int32.ofNat n)), .val (.int (1 : Int32)), .val (.int (Int32.ofNat i)), s5] [])) t := fun t k => q28 t (by
          show Steps p.tables e below (T0.setTop (mkF m 25 #[.val (.ref a1), s1, .val (.int (Int32.ofNat n)), .val (.int (1 : Int32)), .val (.int (Int32.ofNat i)), .val (.int (f i))] [(.int (46 : Int32)), (.int (f i))])) _
          refine XS.icmpNo X0.here hx rfl (hb hby d3_25) rfl (XT.ii_eq_f (k29 : ¬ ((f i) = (46 : Int32)))) ?_
          show Steps p.tables e below (T0.setTop (mkF m 28 #[.val (.ref a1), s1, .val (.int (Int32.ofNat n)), .val (.int (1 : Int32)), .val (.int (Int32.ofNat i)), .val (.int (f i))] [])) _
          refine XS.iload X0.here hx rfl (hb hby d3_28) rfl ?_
          show Steps p.tables e below (T0.setTop (mkF m 30 #[.val (.ref a1), s1, .val (.int (Int32.ofNat n)), .val (.int (1 : Int32)), .val (.int (Int32.ofNat i)), .val (.int (f i))] [(.int (f i))])) _
          refine XS.bipush X0.here hx rfl (hb hby d3_30) ?_
          show Steps p.tables e below (T0.setTop (mkF m 32 #[.val (.ref a1), s1, .val (.int (Int32.ofNat n)), .val (.int (1 : Int32)), .val (.int (Int32.ofNat i)), .val (.int (f i))] [(.int (101 : Int32)), (.int (f i))])) _
          exact k)
      by_cases k35 : (f i) = (101 : Int32)
      · skip
        have hv : own_wh f (k + 1) i = 0 := by rw [own_whs, if_neg k29, if_pos k35]
        rw [hv]
        have q36 : ∀ t, Steps p.tables e below (T0.setTop (mkF m 8 #[.val (.ref a1), s1, .val (.int (Int32.ofNat n)), .val (.int (0 : Int32)), .val (.int ((Int32.ofNat i) + (1 : Int32))), .val (.int (f i))] [(.int (Int32.ofNat n)), (.int ((Int32.ofNat i) + (1 : Int32)))])) t → Steps p.tables e below (T0.setTop (mkF m 5 #[.val (.ref a1), s1, .val (.int (Int32.ofNat n)), .val (.int (1 : Int32)), .val (.int (Int32.ofNat i)), s5] [])) t := fun t k => q34 t (by
            show Steps p.tables e below (T0.setTop (mkF m 32 #[.val (.ref a1), s1, .val (.int (Int32.ofNat n)), .val (.int (1 : Int32)), .val (.int (Int32.ofNat i)), .val (.int (f i))] [(.int (101 : Int32)), (.int (f i))])) _
            refine XS.icmpYes X0.here hx rfl (pc0 := 32) (pc' := 46) rfl (hb hby d3_32) rfl (XT.ii_eq_t (k35 : (f i) = (101 : Int32))) (by decide) (by decide) ?_
            show Steps p.tables e below (T0.setTop (mkF m 46 #[.val (.ref a1), s1, .val (.int (Int32.ofNat n)), .val (.int (1 : Int32)), .val (.int (Int32.ofNat i)), .val (.int (f i))] [])) _
            refine XS.iconst X0.here hx rfl (hb hby d3_46) ?_
            show Steps p.tables e below (T0.setTop (mkF m 47 #[.val (.ref a1), s1, .val (.int (Int32.ofNat n)), .val (.int (1 : Int32)), .val (.int (Int32.ofNat i)), .val (.int (f i))] [(.int (0 : Int32))])) _
            refine XS.istoreN X0.here hx rfl (hb hby d3_47) rfl (l' := #[.val (.ref a1), s1, .val (.int (Int32.ofNat n)), .val (.int (0 : Int32)), .val (.int (Int32.ofNat i)), .val (.int (f i))]) rfl ?_
            show Steps p.tables e below (T0.setTop (mkF m 48 #[.val (.ref a1), s1, .val (.int (Int32.ofNat n)), .val (.int (0 : Int32)), .val (.int (Int32.ofNat i)), .val (.int (f i))] [])) _
            refine XS.iinc X0.here hx rfl (hb hby d3_48) rfl (l' := #[.val (.ref a1), s1, .val (.int (Int32.ofNat n)), .val (.int (0 : Int32)), .val (.int ((Int32.ofNat i) + (1 : Int32))), .val (.int (f i))]) rfl ?_
            show Steps p.tables e below (T0.setTop (mkF m 51 #[.val (.ref a1), s1, .val (.int (Int32.ofNat n)), .val (.int (0 : Int32)), .val (.int ((Int32.ofNat i) + (1 : Int32))), .val (.int (f i))] [])) _
            refine XS.goto X0.here hx rfl (pc0 := 51) (pc' := 5) rfl (hb hby d3_51) (by decide) (by decide) ?_
            show Steps p.tables e below (T0.setTop (mkF m 5 #[.val (.ref a1), s1, .val (.int (Int32.ofNat n)), .val (.int (0 : Int32)), .val (.int ((Int32.ofNat i) + (1 : Int32))), .val (.int (f i))] [])) _
            refine XS.iload X0.here hx rfl (hb hby d3_5) rfl ?_
            show Steps p.tables e below (T0.setTop (mkF m 7 #[.val (.ref a1), s1, .val (.int (Int32.ofNat n)), .val (.int (0 : Int32)), .val (.int ((Int32.ofNat i) + (1 : Int32))), .val (.int (f i))] [(.int ((Int32.ofNat i) + (1 : Int32)))])) _
            refine XS.iloadN X0.here hx rfl (hb hby d3_7) rfl ?_
            show Steps p.tables e below (T0.setTop (mkF m 8 #[.val (.ref a1), s1, .val (.int (Int32.ofNat n)), .val (.int (0 : Int32)), .val (.int ((Int32.ofNat i) + (1 : Int32))), .val (.int (f i))] [(.int (Int32.ofNat n)), (.int ((Int32.ofNat i) + (1 : Int32)))])) _
            exact k)
        by_cases k37 : ((Int32.ofNat i) + (1 : Int32)) < (Int32.ofNat n)
        · skip
          have q38 : ∀ t, Steps p.tables e below (T0.setTop (mkF m 54 #[.val (.ref a1), s1, .val (.int (Int32.ofNat n)), .val (.int (0 : Int32)), .val (.int ((Int32.ofNat i) + (1 : Int32))), .val (.int (f i))] [])) t → Steps p.tables e below (T0.setTop (mkF m 5 #[.val (.ref a1), s1, .val (.int (Int32.ofNat n)), .val (.int (1 : Int32)), .val (.int (Int32.ofNat i)), s5] [])) t := fun t k => q36 t (by
              show Steps p.tables e below (T0.setTop (mkF m 8 #[.val (.ref a1), s1, .val (.int (Int32.ofNat n)), .val (.int (0 : Int32)), .val (.int ((Int32.ofNat i) + (1 : Int32))), .val (.int (f i))] [(.int (Int32.ofNat n)), (.int ((Int32.ofNat i) + (1 : Int32)))])) _
              refine XS.icmpNo X0.here hx rfl (hb hby d3_8) rfl (XT.ii_ge_f (k37 : ((Int32.ofNat i) + (1 : Int32)) < (Int32.ofNat n))) ?_
              show Steps p.tables e below (T0.setTop (mkF m 11 #[.val (.ref a1), s1, .val (.int (Int32.ofNat n)), .val (.int (0 : Int32)), .val (.int ((Int32.ofNat i) + (1 : Int32))), .val (.int (f i))] [])) _
              refine XS.iloadN X0.here hx rfl (hb hby d3_11) rfl ?_
              show Steps p.tables e below (T0.setTop (mkF m 12 #[.val (.ref a1), s1, .val (.int (Int32.ofNat n)), .val (.int (0 : Int32)), .val (.int ((Int32.ofNat i) + (1 : Int32))), .val (.int (f i))] [(.int (0 : Int32))])) _
              refine XS.ifYes X0.here hx rfl (pc0 := 12) (pc' := 54) rfl (hb hby d3_12) rfl (XT.i0_eq_t (rfl : (0 : Int32) = (0 : Int32))) (by decide) (by decide) ?_
              show Steps p.tables e below (T0.setTop (mkF m 54 #[.val (.ref a1), s1, .val (.int (Int32.ofNat n)), .val (.int (0 : Int32)), .val (.int ((Int32.ofNat i) + (1 : Int32))), .val (.int (f i))] [])) _
              exact k)
          exact ⟨_, _, q38⟩
        · skip
          have q39 : ∀ t, Steps p.tables e below (T0.setTop (mkF m 54 #[.val (.ref a1), s1, .val (.int (Int32.ofNat n)), .val (.int (0 : Int32)), .val (.int ((Int32.ofNat i) + (1 : Int32))), .val (.int (f i))] [])) t → Steps p.tables e below (T0.setTop (mkF m 5 #[.val (.ref a1), s1, .val (.int (Int32.ofNat n)), .val (.int (1 : Int32)), .val (.int (Int32.ofNat i)), s5] [])) t := fun t k => q36 t (by
              show Steps p.tables e below (T0.setTop (mkF m 8 #[.val (.ref a1), s1, .val (.int (Int32.ofNat n)), .val (.int (0 : Int32)), .val (.int ((Int32.ofNat i) + (1 : Int32))), .val (.int (f i))] [(.int (Int32.ofNat n)), (.int ((Int32.ofNat i) + (1 : Int32)))])) _
              refine XS.icmpYes X0.here hx rfl (pc0 := 8) (pc' := 54) rfl (hb hby d3_8) rfl (XT.ii_ge_t (k37 : ¬ (((Int32.ofNat i) + (1 : Int32)) < (Int32.ofNat n)))) (by decide) (by decide) ?_
              show Steps p.tables e below (T0.setTop (mkF m 54 #[.val (.ref a1), s1, .val (.int (Int32.ofNat n)), .val (.int (0 : Int32)), .val (.int ((Int32.ofNat i) + (1 : Int32))), .val (.int (f i))] [])) _
              exact k)
          exact ⟨_, _, q39⟩
      · skip
        have q40 : ∀ t, Steps p.tables e below (T0.setTop (mkF m 39 #[.val (.ref a1), s1, .val (.int (Int32.ofNat n)), .val (.int (1 : Int32)), .val (.int (Int32.ofNat i)), .val (.int (f i))] [(.int (69 : Int32)), (.int (f i))])) t → Steps p.tables e below (T0.setTop (mkF m 5 #[.val (.ref a1), s1, .val (.int (Int32.ofNat n)), .val (.int (1 : Int32)), .val (.int (Int32.ofNat i)), s5] [])) t := fun t k => q34 t (by
            show Steps p.tables e below (T0.setTop (mkF m 32 #[.val (.ref a1), s1, .val (.int (Int32.ofNat n)), .val (.int (1 : Int32)), .val (.int (Int32.ofNat i)), .val (.int (f i))] [(.int (101 : Int32)), (.int (f i))])) _
            refine XS.icmpNo X0.here hx rfl (hb hby d3_32) rfl (XT.ii_eq_f (k35 : ¬ ((f i) = (101 : Int32)))) ?_
            show Steps p.tables e below (T0.setTop (mkF m 35 #[.val (.ref a1), s1, .val (.int (Int32.ofNat n)), .val (.int (1 : Int32)), .val (.int (Int32.ofNat i)), .val (.int (f i))] [])) _
            refine XS.iload X0.here hx rfl (hb hby d3_35) rfl ?_
            show Steps p.tables e below (T0.setTop (mkF m 37 #[.val (.ref a1), s1, .val (.int (Int32.ofNat n)), .val (.int (1 : Int32)), .val (.int (Int32.ofNat i)), .val (.int (f i))] [(.int (f i))])) _
            refine XS.bipush X0.here hx rfl (hb hby d3_37) ?_
            show Steps p.tables e below (T0.setTop (mkF m 39 #[.val (.ref a1), s1, .val (.int (Int32.ofNat n)), .val (.int (1 : Int32)), .val (.int (Int32.ofNat i)), .val (.int (f i))] [(.int (69 : Int32)), (.int (f i))])) _
            exact k)
        by_cases k41 : (f i) = (69 : Int32)
        · skip
          have hv : own_wh f (k + 1) i = 0 := by rw [own_whs, if_neg k29, if_neg k35, if_pos k41]
          rw [hv]
          have q42 : ∀ t, Steps p.tables e below (T0.setTop (mkF m 8 #[.val (.ref a1), s1, .val (.int (Int32.ofNat n)), .val (.int (0 : Int32)), .val (.int ((Int32.ofNat i) + (1 : Int32))), .val (.int (f i))] [(.int (Int32.ofNat n)), (.int ((Int32.ofNat i) + (1 : Int32)))])) t → Steps p.tables e below (T0.setTop (mkF m 5 #[.val (.ref a1), s1, .val (.int (Int32.ofNat n)), .val (.int (1 : Int32)), .val (.int (Int32.ofNat i)), s5] [])) t := fun t k => q40 t (by
              show Steps p.tables e below (T0.setTop (mkF m 39 #[.val (.ref a1), s1, .val (.int (Int32.ofNat n)), .val (.int (1 : Int32)), .val (.int (Int32.ofNat i)), .val (.int (f i))] [(.int (69 : Int32)), (.int (f i))])) _
              refine XS.icmpYes X0.here hx rfl (pc0 := 39) (pc' := 46) rfl (hb hby d3_39) rfl (XT.ii_eq_t (k41 : (f i) = (69 : Int32))) (by decide) (by decide) ?_
              show Steps p.tables e below (T0.setTop (mkF m 46 #[.val (.ref a1), s1, .val (.int (Int32.ofNat n)), .val (.int (1 : Int32)), .val (.int (Int32.ofNat i)), .val (.int (f i))] [])) _
              refine XS.iconst X0.here hx rfl (hb hby d3_46) ?_
              show Steps p.tables e below (T0.setTop (mkF m 47 #[.val (.ref a1), s1, .val (.int (Int32.ofNat n)), .val (.int (1 : Int32)), .val (.int (Int32.ofNat i)), .val (.int (f i))] [(.int (0 : Int32))])) _
              refine XS.istoreN X0.here hx rfl (hb hby d3_47) rfl (l' := #[.val (.ref a1), s1, .val (.int (Int32.ofNat n)), .val (.int (0 : Int32)), .val (.int (Int32.ofNat i)), .val (.int (f i))]) rfl ?_
              show Steps p.tables e below (T0.setTop (mkF m 48 #[.val (.ref a1), s1, .val (.int (Int32.ofNat n)), .val (.int (0 : Int32)), .val (.int (Int32.ofNat i)), .val (.int (f i))] [])) _
              refine XS.iinc X0.here hx rfl (hb hby d3_48) rfl (l' := #[.val (.ref a1), s1, .val (.int (Int32.ofNat n)), .val (.int (0 : Int32)), .val (.int ((Int32.ofNat i) + (1 : Int32))), .val (.int (f i))]) rfl ?_
              show Steps p.tables e below (T0.setTop (mkF m 51 #[.val (.ref a1), s1, .val (.int (Int32.ofNat n)), .val (.int (0 : Int32)), .val (.int ((Int32.ofNat i) + (1 : Int32))), .val (.int (f i))] [])) _
              refine XS.goto X0.here hx rfl (pc0 := 51) (pc' := 5) rfl (hb hby d3_51) (by decide) (by decide) ?_
              show Steps p.tables e below (T0.setTop (mkF m 5 #[.val (.ref a1), s1, .val (.int (Int32.ofNat n)), .val (.int (0 : Int32)), .val (.int ((Int32.ofNat i) + (1 : Int32))), .val (.int (f i))] [])) _
              refine XS.iload X0.here hx rfl (hb hby d3_5) rfl ?_
              show Steps p.tables e below (T0.setTop (mkF m 7 #[.val (.ref a1), s1, .val (.int (Int32.ofNat n)), .val (.int (0 : Int32)), .val (.int ((Int32.ofNat i) + (1 : Int32))), .val (.int (f i))] [(.int ((Int32.ofNat i) + (1 : Int32)))])) _
              refine XS.iloadN X0.here hx rfl (hb hby d3_7) rfl ?_
              show Steps p.tables e below (T0.setTop (mkF m 8 #[.val (.ref a1), s1, .val (.int (Int32.ofNat n)), .val (.int (0 : Int32)), .val (.int ((Int32.ofNat i) + (1 : Int32))), .val (.int (f i))] [(.int (Int32.ofNat n)), (.int ((Int32.ofNat i) + (1 : Int32)))])) _
              exact k)
          by_cases k43 : ((Int32.ofNat i) + (1 : Int32)) < (Int32.ofNat n)
          · skip
            have q44 : ∀ t, Steps p.tables e below (T0.setTop (mkF m 54 #[.val (.ref a1), s1, .val (.int (Int32.ofNat n)), .val (.int (0 : Int32)), .val (.int ((Int32.ofNat i) + (1 : Int32))), .val (.int (f i))] [])) t → Steps p.tables e below (T0.setTop (mkF m 5 #[.val (.ref a1), s1, .val (.int (Int32.ofNat n)), .val (.int (1 : Int32)), .val (.int (Int32.ofNat i)), s5] [])) t := fun t k => q42 t (by
                show Steps p.tables e below (T0.setTop (mkF m 8 #[.val (.ref a1), s1, .val (.int (Int32.ofNat n)), .val (.int (0 : Int32)), .val (.int ((Int32.ofNat i) + (1 : Int32))), .val (.int (f i))] [(.int (Int32.ofNat n)), (.int ((Int32.ofNat i) + (1 : Int32)))])) _
                refine XS.icmpNo X0.here hx rfl (hb hby d3_8) rfl (XT.ii_ge_f (k43 : ((Int32.ofNat i) + (1 : Int32)) < (Int32.ofNat n))) ?_
                show Steps p.tables e below (T0.setTop (mkF m 11 #[.val (.ref a1), s1, .val (.int (Int32.ofNat n)), .val (.int (0 : Int32)), .val (.int ((Int32.ofNat i) + (1 : Int32))), .val (.int (f i))] [])) _
                refine XS.iloadN X0.here hx rfl (hb hby d3_11) rfl ?_
                show Steps p.tables e below (T0.setTop (mkF m 12 #[.val (.ref a1), s1, .val (.int (Int32.ofNat n)), .val (.int (0 : Int32)), .val (.int ((Int32.ofNat i) + (1 : Int32))), .val (.int (f i))] [(.int (0 : Int32))])) _
                refine XS.ifYes X0.here hx rfl (pc0 := 12) (pc' := 54) rfl (hb hby d3_12) rfl (XT.i0_eq_t (rfl : (0 : Int32) = (0 : Int32))) (by decide) (by decide) ?_
                show Steps p.tables e below (T0.setTop (mkF m 54 #[.val (.ref a1), s1, .val (.int (Int32.ofNat n)), .val (.int (0 : Int32)), .val (.int ((Int32.ofNat i) + (1 : Int32))), .val (.int (f i))] [])) _
                exact k)
            exact ⟨_, _, q44⟩
          · skip
            have q45 : ∀ t, Steps p.tables e below (T0.setTop (mkF m 54 #[.val (.ref a1), s1, .val (.int (Int32.ofNat n)), .val (.int (0 : Int32)), .val (.int ((Int32.ofNat i) + (1 : Int32))), .val (.int (f i))] [])) t → Steps p.tables e below (T0.setTop (mkF m 5 #[.val (.ref a1), s1, .val (.int (Int32.ofNat n)), .val (.int (1 : Int32)), .val (.int (Int32.ofNat i)), s5] [])) t := fun t k => q42 t (by
                show Steps p.tables e below (T0.setTop (mkF m 8 #[.val (.ref a1), s1, .val (.int (Int32.ofNat n)), .val (.int (0 : Int32)), .val (.int ((Int32.ofNat i) + (1 : Int32))), .val (.int (f i))] [(.int (Int32.ofNat n)), (.int ((Int32.ofNat i) + (1 : Int32)))])) _
                refine XS.icmpYes X0.here hx rfl (pc0 := 8) (pc' := 54) rfl (hb hby d3_8) rfl (XT.ii_ge_t (k43 : ¬ (((Int32.ofNat i) + (1 : Int32)) < (Int32.ofNat n)))) (by decide) (by decide) ?_
                show Steps p.tables e below (T0.setTop (mkF m 54 #[.val (.ref a1), s1, .val (.int (Int32.ofNat n)), .val (.int (0 : Int32)), .val (.int ((Int32.ofNat i) + (1 : Int32))), .val (.int (f i))] [])) _
                exact k)
            exact ⟨_, _, q45⟩
        · skip
          have hv : own_wh f (k + 1) i = own_wh f k (i + 1) := by rw [own_whs, if_neg k29, if_neg k35, if_neg k41]
          rw [hv]
          have q46 : ∀ t, Steps p.tables e below (T0.setTop (mkF m 5 #[.val (.ref a1), s1, .val (.int (Int32.ofNat n)), .val (.int (1 : Int32)), .val (.int ((Int32.ofNat i) + (1 : Int32))), .val (.int (f i))] [])) t → Steps p.tables e below (T0.setTop (mkF m 5 #[.val (.ref a1), s1, .val (.int (Int32.ofNat n)), .val (.int (1 : Int32)), .val (.int (Int32.ofNat i)), s5] [])) t := fun t k => q40 t (by
              show Steps p.tables e below (T0.setTop (mkF m 39 #[.val (.ref a1), s1, .val (.int (Int32.ofNat n)), .val (.int (1 : Int32)), .val (.int (Int32.ofNat i)), .val (.int (f i))] [(.int (69 : Int32)), (.int (f i))])) _
              refine XS.icmpNo X0.here hx rfl (hb hby d3_39) rfl (XT.ii_eq_f (k41 : ¬ ((f i) = (69 : Int32)))) ?_
              show Steps p.tables e below (T0.setTop (mkF m 42 #[.val (.ref a1), s1, .val (.int (Int32.ofNat n)), .val (.int (1 : Int32)), .val (.int (Int32.ofNat i)), .val (.int (f i))] [])) _
              refine XS.iconst X0.here hx rfl (hb hby d3_42) ?_
              show Steps p.tables e below (T0.setTop (mkF m 43 #[.val (.ref a1), s1, .val (.int (Int32.ofNat n)), .val (.int (1 : Int32)), .val (.int (Int32.ofNat i)), .val (.int (f i))] [(.int (1 : Int32))])) _
              refine XS.goto X0.here hx rfl (pc0 := 43) (pc' := 47) rfl (hb hby d3_43) (by decide) (by decide) ?_
              show Steps p.tables e below (T0.setTop (mkF m 47 #[.val (.ref a1), s1, .val (.int (Int32.ofNat n)), .val (.int (1 : Int32)), .val (.int (Int32.ofNat i)), .val (.int (f i))] [(.int (1 : Int32))])) _
              refine XS.istoreN X0.here hx rfl (hb hby d3_47) rfl (l' := #[.val (.ref a1), s1, .val (.int (Int32.ofNat n)), .val (.int (1 : Int32)), .val (.int (Int32.ofNat i)), .val (.int (f i))]) rfl ?_
              show Steps p.tables e below (T0.setTop (mkF m 48 #[.val (.ref a1), s1, .val (.int (Int32.ofNat n)), .val (.int (1 : Int32)), .val (.int (Int32.ofNat i)), .val (.int (f i))] [])) _
              refine XS.iinc X0.here hx rfl (hb hby d3_48) rfl (l' := #[.val (.ref a1), s1, .val (.int (Int32.ofNat n)), .val (.int (1 : Int32)), .val (.int ((Int32.ofNat i) + (1 : Int32))), .val (.int (f i))]) rfl ?_
              show Steps p.tables e below (T0.setTop (mkF m 51 #[.val (.ref a1), s1, .val (.int (Int32.ofNat n)), .val (.int (1 : Int32)), .val (.int ((Int32.ofNat i) + (1 : Int32))), .val (.int (f i))] [])) _
              refine XS.goto X0.here hx rfl (pc0 := 51) (pc' := 5) rfl (hb hby d3_51) (by decide) (by decide) ?_
              show Steps p.tables e below (T0.setTop (mkF m 5 #[.val (.ref a1), s1, .val (.int (Int32.ofNat n)), .val (.int (1 : Int32)), .val (.int ((Int32.ofNat i) + (1 : Int32))), .val (.int (f i))] [])) _
              exact k)
          have q47 : ∀ t, Steps p.tables e below (T0.setTop (mkF m 5 #[.val (.ref a1), s1, .val (.int (Int32.ofNat n)), .val (.int (1 : Int32)), .val (.int (Int32.ofNat (i + 1))), .val (.int (f i))] [])) t → Steps p.tables e below (T0.setTop (mkF m 5 #[.val (.ref a1), s1, .val (.int (Int32.ofNat n)), .val (.int (1 : Int32)), .val (.int (Int32.ofNat i)), s5] [])) t := fun t k => q46 t (by rw [show ((Int32.ofNat i) + (1 : Int32)) = (Int32.ofNat (i + 1)) from (own_one i).symm]; exact k)
          obtain ⟨z, s6, st⟩ := ih (i + 1) (.val (.int (f i))) (by omega) (by omega) (Or.inr ⟨_, rfl⟩)
          exact ⟨z, s6, fun t k => q47 t (st t k)⟩
theorem pn_com_example_lune12_lune12_document_JsonSyntax : plainName "com/example/lune12/lune12/document/JsonSyntax" = true := by first | (simp [plainName, overriddenIn]; done) | decide +kernel
theorem ef_3 (m : MethodId) (x0 : Addr) (x1 : Int32) (x2 : Int32) : entryFrame m #[(.ref x0), (.int x1), (.int x2)] 6 = mkF m 0 #[.val (.ref x0), .val (.int x1), .val (.int x2), .unset, .unset, .unset] [] := by first | (simp [entryFrame, mkF, argsToLocals, Value.category]; done) | rfl
theorem d3_0 : decode prog_33_method_8_code 0 = .ok (.iconst 1, 1) := by decide +kernel
theorem d3_1 : decode prog_33_method_8_code 1 = .ok (.istore_n 3, 1) := by decide +kernel
theorem d3_2 : decode prog_33_method_8_code 2 = .ok (.iload_n 1, 1) := by decide +kernel
theorem d3_3 : decode prog_33_method_8_code 3 = .ok (.istore 4, 2) := by decide +kernel
theorem d3_54 : decode prog_33_method_8_code 54 = .ok (.iload_n 3, 1) := by decide +kernel
theorem d3_55 : decode prog_33_method_8_code 55 = .ok (.ireturn, 1) := by decide +kernel
set_option maxRecDepth 65536 in
set_option maxHeartbeats 40000000 in
theorem rm3 (l : Launch) (Z : State) (a0 : Array Value) (hw : ∀ d ∈ tables_1, d.before a0 Z = true) (ws : List Jvm.Cond) (a1 : Addr) (sn n : Nat) (hs : sn ≤ 6) (hn : n ≤ 6) (f : Nat → Int32) (cl : Cell) (h0 : Heap) (n0 : Nat) (Z0 : n0 ≤ h0.size) (Ar : Arr Z h0 a1 cl .byte) (S : cl.slots.size = 6) (H : ∀ i, i < cl.slots.size → cl.slots[i]? = some (.int (f i))) :
    MetFree l (⟨"com/example/lune12/lune12/document/JsonSyntax", "isWhole", "([BII)Z"⟩ : MethodName) (head1 (Jvm.Cond.code (⟨"com/example/lune12/lune12/document/JsonSyntax", "isWhole", "([BII)Z"⟩ : MethodName) prog_33_method_8_code 6 (some .boolean) :: ws) ({ frames := 0, cells := 0, slots := 0, locals := 0 } : Room)) (fun a U => a = #[(.ref a1), (.int (Int32.ofNat sn)), (.int (Int32.ofNat n))] ∧ Z.Warmed39 U.vm ∧ U.heap = h0) (fun _ _ _ _ _ => True) (fun _ U o U' => ∃ v L, o = .returned v ∧ QN (own_wh f (n - sn) sn) h0 n0 v U'.heap L ∧ FrameEnd U o U' L ({ frames := 0, cells := 0, slots := 0, locals := 0 } : Room).cells ({ frames := 0, cells := 0, slots := 0, locals := 0 } : Room).slots) := by
  refine MetFree.of_bodySF (plainFor_of_name pn_com_example_lune12_lune12_document_JsonSyntax) hisR ?_
  intro p e s m args below meth c s₁ Bd hml0 hP hK
  obtain ⟨rfl, hZ, hh⟩ := hP
  have hx := Bd.exec
  have hby := Bd.bytes
  have hml : c.maxLocals = 6 := hml0
  have hown : s.vm.findClass "com/example/lune12/lune12/document/JsonSyntax" = some m.cls := findClass_of_methodNamed Bd.named
  have hnm := (name_of_methodNamed Bd.named Bd.method).1
  have X0 : Stand p l e ({ frames := 0, cells := 0, slots := 0, locals := 0 } : Room) s m #[(.ref a1), (.int (Int32.ofNat sn)), (.int (Int32.ofNat n))] below meth c s₁ [] 0 0 := Stand.of_body Bd
  have e0 : s₁.heap = h0 := by rw [← hh, Bd.state]; rfl
  have N0 := Fr.nil n0
  have pre0 : ∀ t, Steps p.tables e below (s₁.setTop (mkF m 0 #[.val (.ref a1), .val (.int (Int32.ofNat sn)), .val (.int (Int32.ofNat n)), .unset, .unset, .unset] [])) t → Steps p.tables e below (s₁.setTop (entryFrame m #[(.ref a1), (.int (Int32.ofNat sn)), (.int (Int32.ofNat n))] 6)) t := fun t k => castTop (ef_3 m a1 (Int32.ofNat sn) (Int32.ofNat n)) k
  have q48 : ∀ t, Steps p.tables e below (s₁.setTop (mkF m 5 #[.val (.ref a1), .val (.int (Int32.ofNat sn)), .val (.int (Int32.ofNat n)), .val (.int (1 : Int32)), .val (.int (Int32.ofNat sn)), .unset] [])) t → Steps p.tables e below (s₁.setTop (entryFrame m #[(.ref a1), (.int (Int32.ofNat sn)), (.int (Int32.ofNat n))] 6)) t := fun t k => pre0 t (by
      show Steps p.tables e below (s₁.setTop (mkF m 0 #[.val (.ref a1), .val (.int (Int32.ofNat sn)), .val (.int (Int32.ofNat n)), .unset, .unset, .unset] [])) _
      refine XS.iconst X0.here hx rfl (hb hby d3_0) ?_
      show Steps p.tables e below (s₁.setTop (mkF m 1 #[.val (.ref a1), .val (.int (Int32.ofNat sn)), .val (.int (Int32.ofNat n)), .unset, .unset, .unset] [(.int (1 : Int32))])) _
      refine XS.istoreN X0.here hx rfl (hb hby d3_1) rfl (l' := #[.val (.ref a1), .val (.int (Int32.ofNat sn)), .val (.int (Int32.ofNat n)), .val (.int (1 : Int32)), .unset, .unset]) rfl ?_
      show Steps p.tables e below (s₁.setTop (mkF m 2 #[.val (.ref a1), .val (.int (Int32.ofNat sn)), .val (.int (Int32.ofNat n)), .val (.int (1 : Int32)), .unset, .unset] [])) _
      refine XS.iloadN X0.here hx rfl (hb hby d3_2) rfl ?_
      show Steps p.tables e below (s₁.setTop (mkF m 3 #[.val (.ref a1), .val (.int (Int32.ofNat sn)), .val (.int (Int32.ofNat n)), .val (.int (1 : Int32)), .unset, .unset] [(.int (Int32.ofNat sn))])) _
      refine XS.istore X0.here hx rfl (hb hby d3_3) rfl (l' := #[.val (.ref a1), .val (.int (Int32.ofNat sn)), .val (.int (Int32.ofNat n)), .val (.int (1 : Int32)), .val (.int (Int32.ofNat sn)), .unset]) rfl ?_
      show Steps p.tables e below (s₁.setTop (mkF m 5 #[.val (.ref a1), .val (.int (Int32.ofNat sn)), .val (.int (Int32.ofNat n)), .val (.int (1 : Int32)), .val (.int (Int32.ofNat sn)), .unset] [])) _
      exact k)
  obtain ⟨z, s6, stL⟩ := loop3 (Z := Z) a1 (.val (.int (Int32.ofNat sn))) n hn f cl X0 hx hZ hby e0 Ar S H (n - sn) sn .unset (by omega) rfl (Or.inl rfl)
  have q49 : ∀ t, Steps p.tables e below (s₁.setTop (mkF m 54 #[.val (.ref a1), .val (.int (Int32.ofNat sn)), .val (.int (Int32.ofNat n)), .val (.int (own_wh f (n - sn) sn)), .val (.int z), s6] [])) t → Steps p.tables e below (s₁.setTop (entryFrame m #[(.ref a1), (.int (Int32.ofNat sn)), (.int (Int32.ofNat n))] 6)) t := fun t k => q48 t (stL t k)
  have q50 : ∀ t, Steps p.tables e below (s₁.setTop (mkF m 55 #[.val (.ref a1), .val (.int (Int32.ofNat sn)), .val (.int (Int32.ofNat n)), .val (.int (own_wh f (n - sn) sn)), .val (.int z), s6] [(.int (own_wh f (n - sn) sn))])) t → Steps p.tables e below (s₁.setTop (entryFrame m #[(.ref a1), (.int (Int32.ofNat sn)), (.int (Int32.ofNat n))] 6)) t := fun t k => q49 t (by
      show Steps p.tables e below (s₁.setTop (mkF m 54 #[.val (.ref a1), .val (.int (Int32.ofNat sn)), .val (.int (Int32.ofNat n)), .val (.int (own_wh f (n - sn) sn)), .val (.int z), s6] [])) _
      refine XS.iloadN X0.here hx rfl (hb hby d3_54) rfl ?_
      show Steps p.tables e below (s₁.setTop (mkF m 55 #[.val (.ref a1), .val (.int (Int32.ofNat sn)), .val (.int (Int32.ofNat n)), .val (.int (own_wh f (n - sn) sn)), .val (.int z), s6] [(.int (own_wh f (n - sn) sn))])) _
      exact k)
  obtain ⟨fs, hr, hrun, hended, hW, hsame⟩ := X0.leave (v := some (.int (nar .boolean (own_wh f (n - sn) sn)))) (fun h => by rw [Bd.returns] at h; cases h)
  refine ⟨_, _, q50 _ ?_, hrun, hended, _, _, rfl, ?_, ⟨_, rfl⟩, hW, hsame.mono (by decide) (by decide)⟩
  · show Steps p.tables e below (s₁.setTop (mkF m 55 #[.val (.ref a1), .val (.int (Int32.ofNat sn)), .val (.int (Int32.ofNat n)), .val (.int (own_wh f (n - sn) sn)), .val (.int z), s6] [(.int (own_wh f (n - sn) sn))])) _
    exact retN X0 hx (t := .boolean) Bd.returns (by simp) (hb hby d3_55) hr
  · show QN (own_wh f (n - sn) sn) h0 n0 _ s₁.heap _
    exact ⟨congrArg (fun y => some (Value.int y)) (own_whn f _ _), N0, e0⟩
def QL (n0 : Nat) (v : Option Value) (h : Heap) (L : List Loc) : Prop := v = some (.int (1 : Int32)) ∧ Fr n0 L
theorem ef_0 (m : MethodId) (jw : Int64) (p2 : Int32) (p3 : Int32) : entryFrame m #[(.long jw), (.int p2), (.int p3)] maxLocals = mkF m 0 #[.val (.long jw), .second, .val (.int p2), .val (.int p3), .unset, .unset, .unset, .unset, .unset] [] := by first | (simp [entryFrame, mkF, argsToLocals, Value.category, maxLocals]; done) | rfl
theorem pd__JII_B : parseMethodDescriptor "(JII)B" = some ⟨[.long, .int, .int], some .byte⟩ := by decide +kernel
theorem pd___BIII_Z : parseMethodDescriptor "([BIII)Z" = some ⟨[(.array .byte), .int, .int, .int], some .boolean⟩ := by decide +kernel
theorem pd___BII_Z : parseMethodDescriptor "([BII)Z" = some ⟨[(.array .byte), .int, .int], some .boolean⟩ := by decide +kernel
set_option maxRecDepth 65536 in
set_option maxHeartbeats 40000000 in
theorem rm0 (l : Launch) (Z : State) (a0 : Array Value) (hw : ∀ d ∈ tables_1, d.before a0 Z = true) (ws : List Jvm.Cond) (jw : Int64) (p2 : Int32) (p3 : Int32) (h0 : Heap) (n0 : Nat) (Z0 : n0 ≤ h0.size) :
    MetFree l x (head1 (Jvm.Cond.code x code maxLocals ret :: ws) room_1) (fun a U => a = #[(.long jw), (.int p2), (.int p3)] ∧ Z.Warmed39 U.vm ∧ U.heap = h0) (fun _ _ _ _ _ => True) (fun _ U o U' => ∃ v L, o = .returned v ∧ QL n0 v U'.heap L ∧ FrameEnd U o U' L room_1.cells room_1.slots) := by
  refine MetFree.of_bodySF (plainFor_of_name pn_com_example_lune12_lune12_document_JsonSyntaxIsWholePinLaw) hisR ?_
  intro p e s m args below meth c s₁ Bd hml0 hP hK
  obtain ⟨rfl, hZ, hh⟩ := hP
  have hx := Bd.exec
  have hby := Bd.bytes
  have hml : c.maxLocals = 9 := hml0
  have hown : s.vm.findClass "com/example/lune12/lune12/document/JsonSyntaxIsWholePinLaw" = some m.cls := findClass_of_methodNamed Bd.named
  have hnm := (name_of_methodNamed Bd.named Bd.method).1
  have X0 : Stand p l e room_1 s m #[(.long jw), (.int p2), (.int p3)] below meth c s₁ [] 0 0 := Stand.of_body Bd
  have e0 : s₁.heap = h0 := by rw [← hh, Bd.state]; rfl
  have N0 := Fr.nil n0
  have pre0 : ∀ t, Steps p.tables e below (s₁.setTop (mkF m 0 #[.val (.long jw), .second, .val (.int p2), .val (.int p3), .unset, .unset, .unset, .unset, .unset] [])) t → Steps p.tables e below (s₁.setTop (entryFrame m #[(.long jw), (.int p2), (.int p3)] maxLocals)) t := fun t k => castTop (ef_0 m jw p2 p3) k
  have lit_7 : (7 : Int32).toInt = 7 := rfl
  obtain ⟨sn, hs, eS'⟩ : ∃ z : Nat, z ≤ 6 ∧ ((p3 &&& (7 : Int32)) % (7 : Int32)) = Int32.ofNat z := own_nat (by have q := c_and p3 (7 : Int32) (by omega); have q2 := (c_iremV (p3 &&& (7 : Int32)) (7 : Int32)).1 (by omega) (by omega); omega) 6 (by have q := c_and p3 (7 : Int32) (by omega); have q2 := (c_iremV (p3 &&& (7 : Int32)) (7 : Int32)).1 (by omega) (by omega); omega) (by omega)
  obtain ⟨n, hn, eN'⟩ : ∃ z : Nat, z ≤ 6 ∧ ((((p3.toUInt32 >>> ((3 : Int32) &&& 31).toUInt32).toInt32) &&& (7 : Int32)) % (7 : Int32)) = Int32.ofNat z := own_nat (by have q := c_and ((p3.toUInt32 >>> ((3 : Int32) &&& 31).toUInt32).toInt32) (7 : Int32) (by omega); have q2 := (c_iremV (((p3.toUInt32 >>> ((3 : Int32) &&& 31).toUInt32).toInt32) &&& (7 : Int32)) (7 : Int32)).1 (by omega) (by omega); omega) 6 (by have q := c_and ((p3.toUInt32 >>> ((3 : Int32) &&& 31).toUInt32).toInt32) (7 : Int32) (by omega); have q2 := (c_iremV (((p3.toUInt32 >>> ((3 : Int32) &&& 31).toUInt32).toInt32) &&& (7 : Int32)) (7 : Int32)).1 (by omega) (by omega); omega) (by omega)
  have eS := eS'.symm
  have eN := eN'.symm
  have q51 : ∀ t, Steps p.tables e below (s₁.setTop (mkF m 2 #[.val (.long jw), .second, .val (.int p2), .val (.int p3), .unset, .unset, .unset, .unset, .unset] [(.int (6 : Int32))])) t → Steps p.tables e below (s₁.setTop (entryFrame m #[(.long jw), (.int p2), (.int p3)] maxLocals)) t := fun t k => pre0 t (by
      show Steps p.tables e below (s₁.setTop (mkF m 0 #[.val (.long jw), .second, .val (.int p2), .val (.int p3), .unset, .unset, .unset, .unset, .unset] [])) _
      refine XS.bipush X0.here hx rfl (hb hby at_0) ?_
      show Steps p.tables e below (s₁.setTop (mkF m 2 #[.val (.long jw), .second, .val (.int p2), .val (.int p3), .unset, .unset, .unset, .unset, .unset] [(.int (6 : Int32))])) _
      exact k)
  obtain ⟨T52, h52, k52, X52, e52, E52, A52, st52⟩ := newP X0 hx hZ (hw _ (List.mem_of_getElem? (i := 0) rfl)) e0 (g := (mkF m 2 #[.val (.long jw), .second, .val (.int p2), .val (.int p3), .unset, .unset, .unset, .unset, .unset] [(.int (6 : Int32))])) rfl (hb hby at_2) rfl (by decide) (cap := 6) (by decide) (by decide) (by decide) (by decide)
  obtain ⟨b52, g52⟩ : ∃ z, z = h0.size := ⟨_, rfl⟩
  rw [← g52] at A52 st52
  have q53 : ∀ t, Steps p.tables e below (T52.setTop (mkF m 4 #[.val (.long jw), .second, .val (.int p2), .val (.int p3), .unset, .unset, .unset, .unset, .unset] [(.ref b52)])) t → Steps p.tables e below (s₁.setTop (entryFrame m #[(.long jw), (.int p2), (.int p3)] maxLocals)) t := fun t k => q51 t (st52 t k)
  have Z52 : n0 ≤ h52.size := Nat.le_trans Z0 E52.1
  have g_b : n0 ≤ b52 := Nat.le_trans Z0 (Nat.le_of_eq g52.symm)
  have B0 : Bt Z h52 b52 (6 : Int32) (fun _ => 0) := Bt.new A52 (by decide)
  have q54 : ∀ t, Steps p.tables e below (T52.setTop (mkF m 12 #[.val (.long jw), .second, .val (.int p2), .val (.int p3), .val (.ref b52), .unset, .unset, .unset, .unset] [(.int (0 : Int32)), (.int p2), (.long jw), (.int (0 : Int32)), (.ref b52)])) t → Steps p.tables e below (s₁.setTop (entryFrame m #[(.long jw), (.int p2), (.int p3)] maxLocals)) t := fun t k => q53 t (by
      show Steps p.tables e below (T52.setTop (mkF m 4 #[.val (.long jw), .second, .val (.int p2), .val (.int p3), .unset, .unset, .unset, .unset, .unset] [(.ref b52)])) _
      refine XS.astore X52.here hx rfl (hb hby at_4) rfl rfl (l' := #[.val (.long jw), .second, .val (.int p2), .val (.int p3), .val (.ref b52), .unset, .unset, .unset, .unset]) rfl ?_
      show Steps p.tables e below (T52.setTop (mkF m 6 #[.val (.long jw), .second, .val (.int p2), .val (.int p3), .val (.ref b52), .unset, .unset, .unset, .unset] [])) _
      refine XS.aload X52.here hx rfl (hb hby at_6) rfl rfl ?_
      show Steps p.tables e below (T52.setTop (mkF m 8 #[.val (.long jw), .second, .val (.int p2), .val (.int p3), .val (.ref b52), .unset, .unset, .unset, .unset] [(.ref b52)])) _
      refine XS.iconst X52.here hx rfl (hb hby at_8) ?_
      show Steps p.tables e below (T52.setTop (mkF m 9 #[.val (.long jw), .second, .val (.int p2), .val (.int p3), .val (.ref b52), .unset, .unset, .unset, .unset] [(.int (0 : Int32)), (.ref b52)])) _
      refine XS.lloadN X52.here hx rfl (hb hby at_9) rfl ?_
      show Steps p.tables e below (T52.setTop (mkF m 10 #[.val (.long jw), .second, .val (.int p2), .val (.int p3), .val (.ref b52), .unset, .unset, .unset, .unset] [(.long jw), (.int (0 : Int32)), (.ref b52)])) _
      refine XS.iloadN X52.here hx rfl (hb hby at_10) rfl ?_
      show Steps p.tables e below (T52.setTop (mkF m 11 #[.val (.long jw), .second, .val (.int p2), .val (.int p3), .val (.ref b52), .unset, .unset, .unset, .unset] [(.int p2), (.long jw), (.int (0 : Int32)), (.ref b52)])) _
      refine XS.iconst X52.here hx rfl (hb hby at_11) ?_
      show Steps p.tables e below (T52.setTop (mkF m 12 #[.val (.long jw), .second, .val (.int p2), .val (.int p3), .val (.ref b52), .unset, .unset, .unset, .unset] [(.int (0 : Int32)), (.int p2), (.long jw), (.int (0 : Int32)), (.ref b52)])) _
      exact k)
  obtain ⟨_, _, ⟨T55, L55, kk55, nn55⟩, -, X55, ⟨Lc55, hQ55, l55, y55, z55⟩, st55⟩ := Jvm.LawKit.callS X52 hx (y := (⟨"com/example/lune12/lune12/document/JsonSyntaxIsWholePinLaw", "pick", "(JII)B"⟩ : MethodName)) hown (mvT hZ (hw _ (List.mem_of_getElem? (i := 1) rfl))) (mvT hZ (hw _ (List.mem_of_getElem? (i := 2) rfl))) (mvT hZ (hw _ (List.mem_of_getElem? (i := 3) rfl))) (mvT hZ (hw _ (List.mem_of_getElem? (i := 4) rfl))) (by decide) (backOf (W := 2) (rm1 l Z a0 hw [] jw p2 (0 : Int32) h52 n0 Z52) hZ (hw _ (List.mem_of_getElem? (i := 4) rfl)) (hw _ (List.mem_of_getElem? (i := 3) rfl)) (by decide) (by decide)) (g := (mkF m 12 #[.val (.long jw), .second, .val (.int p2), .val (.int p3), .val (.ref b52), .unset, .unset, .unset, .unset] [(.int (0 : Int32)), (.int p2), (.long jw), (.int (0 : Int32)), (.ref b52)])) rfl (by rw [hml]; rfl) (argsL := [(.long jw), (.int p2), (.int (0 : Int32))]) (rest := [(.int (0 : Int32)), (.ref b52)]) (lenOf pd__JII_B rfl) rfl (by show 2 * 0 + _ ≤ _; exact Nat.le_of_eq rfl) (hb hby at_12) (fun _ _ => ⟨rfl, e52, (by decide : 1 + 0 ≤ _), (by decide : 6 + 0 ≤ _)⟩)
  dsimp only [Pt.U, Pt.locs, Pt.cells, Pt.slots] at X55 l55 y55 z55 st55 hQ55
  subst l55 y55 z55
  obtain ⟨rfl, Nq55, e55⟩ := hQ55
  have N55 := Fr.app N0 Nq55
  have q56 : ∀ t, Steps p.tables e below (T55.setTop (mkF m 15 #[.val (.long jw), .second, .val (.int p2), .val (.int p3), .val (.ref b52), .unset, .unset, .unset, .unset] [(.int (own_pk jw p2 (0 : Int32))), (.int (0 : Int32)), (.ref b52)])) t → Steps p.tables e below (s₁.setTop (entryFrame m #[(.long jw), (.int p2), (.int p3)] maxLocals)) t := fun t k => q54 t (st55 t k)
  obtain ⟨cl_0, Ar_0, S_0, M_0, H_0, U_0⟩ := B0
  obtain ⟨T57, h57, X57, e57, W57, st57⟩ := stB X55 hx hZ e55 (Ar_0) (j := (0 : Int32)) (inb_of S_0 ⟨by decide, by decide⟩) (g := (mkF m 15 #[.val (.long jw), .second, .val (.int p2), .val (.int p3), .val (.ref b52), .unset, .unset, .unset, .unset] [(.int (own_pk jw p2 (0 : Int32))), (.int (0 : Int32)), (.ref b52)])) rfl rfl (hb hby at_15)
  have N57 := Fr.snoc X57 N55 (g_b)
  have q58 : ∀ t, Steps p.tables e below (T57.setTop (mkF m 16 #[.val (.long jw), .second, .val (.int p2), .val (.int p3), .val (.ref b52), .unset, .unset, .unset, .unset] [])) t → Steps p.tables e below (s₁.setTop (entryFrame m #[(.long jw), (.int p2), (.int p3)] maxLocals)) t := fun t k => q56 t (st57 t k)
  have Z57 : n0 ≤ h57.size := Nat.le_trans Z52 (Keep.of_wr W57).1
  have B1 := Bt.set Ar_0 S_0 M_0 H_0 U_0 W57
  have q59 : ∀ t, Steps p.tables e below (T57.setTop (mkF m 22 #[.val (.long jw), .second, .val (.int p2), .val (.int p3), .val (.ref b52), .unset, .unset, .unset, .unset] [(.int (1 : Int32)), (.int p2), (.long jw), (.int (1 : Int32)), (.ref b52)])) t → Steps p.tables e below (s₁.setTop (entryFrame m #[(.long jw), (.int p2), (.int p3)] maxLocals)) t := fun t k => q58 t (by
      show Steps p.tables e below (T57.setTop (mkF m 16 #[.val (.long jw), .second, .val (.int p2), .val (.int p3), .val (.ref b52), .unset, .unset, .unset, .unset] [])) _
      refine XS.aload X57.here hx rfl (hb hby at_16) rfl rfl ?_
      show Steps p.tables e below (T57.setTop (mkF m 18 #[.val (.long jw), .second, .val (.int p2), .val (.int p3), .val (.ref b52), .unset, .unset, .unset, .unset] [(.ref b52)])) _
      refine XS.iconst X57.here hx rfl (hb hby at_18) ?_
      show Steps p.tables e below (T57.setTop (mkF m 19 #[.val (.long jw), .second, .val (.int p2), .val (.int p3), .val (.ref b52), .unset, .unset, .unset, .unset] [(.int (1 : Int32)), (.ref b52)])) _
      refine XS.lloadN X57.here hx rfl (hb hby at_19) rfl ?_
      show Steps p.tables e below (T57.setTop (mkF m 20 #[.val (.long jw), .second, .val (.int p2), .val (.int p3), .val (.ref b52), .unset, .unset, .unset, .unset] [(.long jw), (.int (1 : Int32)), (.ref b52)])) _
      refine XS.iloadN X57.here hx rfl (hb hby at_20) rfl ?_
      show Steps p.tables e below (T57.setTop (mkF m 21 #[.val (.long jw), .second, .val (.int p2), .val (.int p3), .val (.ref b52), .unset, .unset, .unset, .unset] [(.int p2), (.long jw), (.int (1 : Int32)), (.ref b52)])) _
      refine XS.iconst X57.here hx rfl (hb hby at_21) ?_
      show Steps p.tables e below (T57.setTop (mkF m 22 #[.val (.long jw), .second, .val (.int p2), .val (.int p3), .val (.ref b52), .unset, .unset, .unset, .unset] [(.int (1 : Int32)), (.int p2), (.long jw), (.int (1 : Int32)), (.ref b52)])) _
      exact k)
  obtain ⟨_, _, ⟨T60, L60, kk60, nn60⟩, -, X60, ⟨Lc60, hQ60, l60, y60, z60⟩, st60⟩ := Jvm.LawKit.callS X57 hx (y := (⟨"com/example/lune12/lune12/document/JsonSyntaxIsWholePinLaw", "pick", "(JII)B"⟩ : MethodName)) hown (mvT hZ (hw _ (List.mem_of_getElem? (i := 1) rfl))) (mvT hZ (hw _ (List.mem_of_getElem? (i := 2) rfl))) (mvT hZ (hw _ (List.mem_of_getElem? (i := 3) rfl))) (mvT hZ (hw _ (List.mem_of_getElem? (i := 4) rfl))) (by decide) (backOf (W := 2) (rm1 l Z a0 hw [] jw p2 (1 : Int32) h57 n0 Z57) hZ (hw _ (List.mem_of_getElem? (i := 4) rfl)) (hw _ (List.mem_of_getElem? (i := 3) rfl)) (by decide) (by decide)) (g := (mkF m 22 #[.val (.long jw), .second, .val (.int p2), .val (.int p3), .val (.ref b52), .unset, .unset, .unset, .unset] [(.int (1 : Int32)), (.int p2), (.long jw), (.int (1 : Int32)), (.ref b52)])) rfl (by rw [hml]; rfl) (argsL := [(.long jw), (.int p2), (.int (1 : Int32))]) (rest := [(.int (1 : Int32)), (.ref b52)]) (lenOf pd__JII_B rfl) rfl (by show 2 * 0 + _ ≤ _; exact Nat.le_of_eq rfl) (hb hby at_22) (fun _ _ => ⟨rfl, e57, (by decide : 1 + 0 ≤ _), (by decide : 6 + 0 ≤ _)⟩)
  dsimp only [Pt.U, Pt.locs, Pt.cells, Pt.slots] at X60 l60 y60 z60 st60 hQ60
  subst l60 y60 z60
  obtain ⟨rfl, Nq60, e60⟩ := hQ60
  have N60 := Fr.app N57 Nq60
  have q61 : ∀ t, Steps p.tables e below (T60.setTop (mkF m 25 #[.val (.long jw), .second, .val (.int p2), .val (.int p3), .val (.ref b52), .unset, .unset, .unset, .unset] [(.int (own_pk jw p2 (1 : Int32))), (.int (1 : Int32)), (.ref b52)])) t → Steps p.tables e below (s₁.setTop (entryFrame m #[(.long jw), (.int p2), (.int p3)] maxLocals)) t := fun t k => q59 t (st60 t k)
  obtain ⟨cl_1, Ar_1, S_1, M_1, H_1, U_1⟩ := B1
  obtain ⟨T62, h62, X62, e62, W62, st62⟩ := stB X60 hx hZ e60 (Ar_1) (j := (1 : Int32)) (inb_of S_1 ⟨by decide, by decide⟩) (g := (mkF m 25 #[.val (.long jw), .second, .val (.int p2), .val (.int p3), .val (.ref b52), .unset, .unset, .unset, .unset] [(.int (own_pk jw p2 (1 : Int32))), (.int (1 : Int32)), (.ref b52)])) rfl rfl (hb hby at_25)
  have N62 := Fr.snoc X62 N60 (g_b)
  have q63 : ∀ t, Steps p.tables e below (T62.setTop (mkF m 26 #[.val (.long jw), .second, .val (.int p2), .val (.int p3), .val (.ref b52), .unset, .unset, .unset, .unset] [])) t → Steps p.tables e below (s₁.setTop (entryFrame m #[(.long jw), (.int p2), (.int p3)] maxLocals)) t := fun t k => q61 t (st62 t k)
  have Z62 : n0 ≤ h62.size := Nat.le_trans Z57 (Keep.of_wr W62).1
  have B2 := Bt.set Ar_1 S_1 M_1 H_1 U_1 W62
  have q64 : ∀ t, Steps p.tables e below (T62.setTop (mkF m 32 #[.val (.long jw), .second, .val (.int p2), .val (.int p3), .val (.ref b52), .unset, .unset, .unset, .unset] [(.int (2 : Int32)), (.int p2), (.long jw), (.int (2 : Int32)), (.ref b52)])) t → Steps p.tables e below (s₁.setTop (entryFrame m #[(.long jw), (.int p2), (.int p3)] maxLocals)) t := fun t k => q63 t (by
      show Steps p.tables e below (T62.setTop (mkF m 26 #[.val (.long jw), .second, .val (.int p2), .val (.int p3), .val (.ref b52), .unset, .unset, .unset, .unset] [])) _
      refine XS.aload X62.here hx rfl (hb hby at_26) rfl rfl ?_
      show Steps p.tables e below (T62.setTop (mkF m 28 #[.val (.long jw), .second, .val (.int p2), .val (.int p3), .val (.ref b52), .unset, .unset, .unset, .unset] [(.ref b52)])) _
      refine XS.iconst X62.here hx rfl (hb hby at_28) ?_
      show Steps p.tables e below (T62.setTop (mkF m 29 #[.val (.long jw), .second, .val (.int p2), .val (.int p3), .val (.ref b52), .unset, .unset, .unset, .unset] [(.int (2 : Int32)), (.ref b52)])) _
      refine XS.lloadN X62.here hx rfl (hb hby at_29) rfl ?_
      show Steps p.tables e below (T62.setTop (mkF m 30 #[.val (.long jw), .second, .val (.int p2), .val (.int p3), .val (.ref b52), .unset, .unset, .unset, .unset] [(.long jw), (.int (2 : Int32)), (.ref b52)])) _
      refine XS.iloadN X62.here hx rfl (hb hby at_30) rfl ?_
      show Steps p.tables e below (T62.setTop (mkF m 31 #[.val (.long jw), .second, .val (.int p2), .val (.int p3), .val (.ref b52), .unset, .unset, .unset, .unset] [(.int p2), (.long jw), (.int (2 : Int32)), (.ref b52)])) _
      refine XS.iconst X62.here hx rfl (hb hby at_31) ?_
      show Steps p.tables e below (T62.setTop (mkF m 32 #[.val (.long jw), .second, .val (.int p2), .val (.int p3), .val (.ref b52), .unset, .unset, .unset, .unset] [(.int (2 : Int32)), (.int p2), (.long jw), (.int (2 : Int32)), (.ref b52)])) _
      exact k)
  obtain ⟨_, _, ⟨T65, L65, kk65, nn65⟩, -, X65, ⟨Lc65, hQ65, l65, y65, z65⟩, st65⟩ := Jvm.LawKit.callS X62 hx (y := (⟨"com/example/lune12/lune12/document/JsonSyntaxIsWholePinLaw", "pick", "(JII)B"⟩ : MethodName)) hown (mvT hZ (hw _ (List.mem_of_getElem? (i := 1) rfl))) (mvT hZ (hw _ (List.mem_of_getElem? (i := 2) rfl))) (mvT hZ (hw _ (List.mem_of_getElem? (i := 3) rfl))) (mvT hZ (hw _ (List.mem_of_getElem? (i := 4) rfl))) (by decide) (backOf (W := 2) (rm1 l Z a0 hw [] jw p2 (2 : Int32) h62 n0 Z62) hZ (hw _ (List.mem_of_getElem? (i := 4) rfl)) (hw _ (List.mem_of_getElem? (i := 3) rfl)) (by decide) (by decide)) (g := (mkF m 32 #[.val (.long jw), .second, .val (.int p2), .val (.int p3), .val (.ref b52), .unset, .unset, .unset, .unset] [(.int (2 : Int32)), (.int p2), (.long jw), (.int (2 : Int32)), (.ref b52)])) rfl (by rw [hml]; rfl) (argsL := [(.long jw), (.int p2), (.int (2 : Int32))]) (rest := [(.int (2 : Int32)), (.ref b52)]) (lenOf pd__JII_B rfl) rfl (by show 2 * 0 + _ ≤ _; exact Nat.le_of_eq rfl) (hb hby at_32) (fun _ _ => ⟨rfl, e62, (by decide : 1 + 0 ≤ _), (by decide : 6 + 0 ≤ _)⟩)
  dsimp only [Pt.U, Pt.locs, Pt.cells, Pt.slots] at X65 l65 y65 z65 st65 hQ65
  subst l65 y65 z65
  obtain ⟨rfl, Nq65, e65⟩ := hQ65
  have N65 := Fr.app N62 Nq65
  have q66 : ∀ t, Steps p.tables e below (T65.setTop (mkF m 35 #[.val (.long jw), .second, .val (.int p2), .val (.int p3), .val (.ref b52), .unset, .unset, .unset, .unset] [(.int (own_pk jw p2 (2 : Int32))), (.int (2 : Int32)), (.ref b52)])) t → Steps p.tables e below (s₁.setTop (entryFrame m #[(.long jw), (.int p2), (.int p3)] maxLocals)) t := fun t k => q64 t (st65 t k)
  obtain ⟨cl_2, Ar_2, S_2, M_2, H_2, U_2⟩ := B2
  obtain ⟨T67, h67, X67, e67, W67, st67⟩ := stB X65 hx hZ e65 (Ar_2) (j := (2 : Int32)) (inb_of S_2 ⟨by decide, by decide⟩) (g := (mkF m 35 #[.val (.long jw), .second, .val (.int p2), .val (.int p3), .val (.ref b52), .unset, .unset, .unset, .unset] [(.int (own_pk jw p2 (2 : Int32))), (.int (2 : Int32)), (.ref b52)])) rfl rfl (hb hby at_35)
  have N67 := Fr.snoc X67 N65 (g_b)
  have q68 : ∀ t, Steps p.tables e below (T67.setTop (mkF m 36 #[.val (.long jw), .second, .val (.int p2), .val (.int p3), .val (.ref b52), .unset, .unset, .unset, .unset] [])) t → Steps p.tables e below (s₁.setTop (entryFrame m #[(.long jw), (.int p2), (.int p3)] maxLocals)) t := fun t k => q66 t (st67 t k)
  have Z67 : n0 ≤ h67.size := Nat.le_trans Z62 (Keep.of_wr W67).1
  have B3 := Bt.set Ar_2 S_2 M_2 H_2 U_2 W67
  have q69 : ∀ t, Steps p.tables e below (T67.setTop (mkF m 42 #[.val (.long jw), .second, .val (.int p2), .val (.int p3), .val (.ref b52), .unset, .unset, .unset, .unset] [(.int (3 : Int32)), (.int p2), (.long jw), (.int (3 : Int32)), (.ref b52)])) t → Steps p.tables e below (s₁.setTop (entryFrame m #[(.long jw), (.int p2), (.int p3)] maxLocals)) t := fun t k => q68 t (by
      show Steps p.tables e below (T67.setTop (mkF m 36 #[.val (.long jw), .second, .val (.int p2), .val (.int p3), .val (.ref b52), .unset, .unset, .unset, .unset] [])) _
      refine XS.aload X67.here hx rfl (hb hby at_36) rfl rfl ?_
      show Steps p.tables e below (T67.setTop (mkF m 38 #[.val (.long jw), .second, .val (.int p2), .val (.int p3), .val (.ref b52), .unset, .unset, .unset, .unset] [(.ref b52)])) _
      refine XS.iconst X67.here hx rfl (hb hby at_38) ?_
      show Steps p.tables e below (T67.setTop (mkF m 39 #[.val (.long jw), .second, .val (.int p2), .val (.int p3), .val (.ref b52), .unset, .unset, .unset, .unset] [(.int (3 : Int32)), (.ref b52)])) _
      refine XS.lloadN X67.here hx rfl (hb hby at_39) rfl ?_
      show Steps p.tables e below (T67.setTop (mkF m 40 #[.val (.long jw), .second, .val (.int p2), .val (.int p3), .val (.ref b52), .unset, .unset, .unset, .unset] [(.long jw), (.int (3 : Int32)), (.ref b52)])) _
      refine XS.iloadN X67.here hx rfl (hb hby at_40) rfl ?_
      show Steps p.tables e below (T67.setTop (mkF m 41 #[.val (.long jw), .second, .val (.int p2), .val (.int p3), .val (.ref b52), .unset, .unset, .unset, .unset] [(.int p2), (.long jw), (.int (3 : Int32)), (.ref b52)])) _
      refine XS.iconst X67.here hx rfl (hb hby at_41) ?_
      show Steps p.tables e below (T67.setTop (mkF m 42 #[.val (.long jw), .second, .val (.int p2), .val (.int p3), .val (.ref b52), .unset, .unset, .unset, .unset] [(.int (3 : Int32)), (.int p2), (.long jw), (.int (3 : Int32)), (.ref b52)])) _
      exact k)
  obtain ⟨_, _, ⟨T70, L70, kk70, nn70⟩, -, X70, ⟨Lc70, hQ70, l70, y70, z70⟩, st70⟩ := Jvm.LawKit.callS X67 hx (y := (⟨"com/example/lune12/lune12/document/JsonSyntaxIsWholePinLaw", "pick", "(JII)B"⟩ : MethodName)) hown (mvT hZ (hw _ (List.mem_of_getElem? (i := 1) rfl))) (mvT hZ (hw _ (List.mem_of_getElem? (i := 2) rfl))) (mvT hZ (hw _ (List.mem_of_getElem? (i := 3) rfl))) (mvT hZ (hw _ (List.mem_of_getElem? (i := 4) rfl))) (by decide) (backOf (W := 2) (rm1 l Z a0 hw [] jw p2 (3 : Int32) h67 n0 Z67) hZ (hw _ (List.mem_of_getElem? (i := 4) rfl)) (hw _ (List.mem_of_getElem? (i := 3) rfl)) (by decide) (by decide)) (g := (mkF m 42 #[.val (.long jw), .second, .val (.int p2), .val (.int p3), .val (.ref b52), .unset, .unset, .unset, .unset] [(.int (3 : Int32)), (.int p2), (.long jw), (.int (3 : Int32)), (.ref b52)])) rfl (by rw [hml]; rfl) (argsL := [(.long jw), (.int p2), (.int (3 : Int32))]) (rest := [(.int (3 : Int32)), (.ref b52)]) (lenOf pd__JII_B rfl) rfl (by show 2 * 0 + _ ≤ _; exact Nat.le_of_eq rfl) (hb hby at_42) (fun _ _ => ⟨rfl, e67, (by decide : 1 + 0 ≤ _), (by decide : 6 + 0 ≤ _)⟩)
  dsimp only [Pt.U, Pt.locs, Pt.cells, Pt.slots] at X70 l70 y70 z70 st70 hQ70
  subst l70 y70 z70
  obtain ⟨rfl, Nq70, e70⟩ := hQ70
  have N70 := Fr.app N67 Nq70
  have q71 : ∀ t, Steps p.tables e below (T70.setTop (mkF m 45 #[.val (.long jw), .second, .val (.int p2), .val (.int p3), .val (.ref b52), .unset, .unset, .unset, .unset] [(.int (own_pk jw p2 (3 : Int32))), (.int (3 : Int32)), (.ref b52)])) t → Steps p.tables e below (s₁.setTop (entryFrame m #[(.long jw), (.int p2), (.int p3)] maxLocals)) t := fun t k => q69 t (st70 t k)
  obtain ⟨cl_3, Ar_3, S_3, M_3, H_3, U_3⟩ := B3
  obtain ⟨T72, h72, X72, e72, W72, st72⟩ := stB X70 hx hZ e70 (Ar_3) (j := (3 : Int32)) (inb_of S_3 ⟨by decide, by decide⟩) (g := (mkF m 45 #[.val (.long jw), .second, .val (.int p2), .val (.int p3), .val (.ref b52), .unset, .unset, .unset, .unset] [(.int (own_pk jw p2 (3 : Int32))), (.int (3 : Int32)), (.ref b52)])) rfl rfl (hb hby at_45)
  have N72 := Fr.snoc X72 N70 (g_b)
  have q73 : ∀ t, Steps p.tables e below (T72.setTop (mkF m 46 #[.val (.long jw), .second, .val (.int p2), .val (.int p3), .val (.ref b52), .unset, .unset, .unset, .unset] [])) t → Steps p.tables e below (s₁.setTop (entryFrame m #[(.long jw), (.int p2), (.int p3)] maxLocals)) t := fun t k => q71 t (st72 t k)
  have Z72 : n0 ≤ h72.size := Nat.le_trans Z67 (Keep.of_wr W72).1
  have B4 := Bt.set Ar_3 S_3 M_3 H_3 U_3 W72
  have q74 : ∀ t, Steps p.tables e below (T72.setTop (mkF m 52 #[.val (.long jw), .second, .val (.int p2), .val (.int p3), .val (.ref b52), .unset, .unset, .unset, .unset] [(.int (4 : Int32)), (.int p2), (.long jw), (.int (4 : Int32)), (.ref b52)])) t → Steps p.tables e below (s₁.setTop (entryFrame m #[(.long jw), (.int p2), (.int p3)] maxLocals)) t := fun t k => q73 t (by
      show Steps p.tables e below (T72.setTop (mkF m 46 #[.val (.long jw), .second, .val (.int p2), .val (.int p3), .val (.ref b52), .unset, .unset, .unset, .unset] [])) _
      refine XS.aload X72.here hx rfl (hb hby at_46) rfl rfl ?_
      show Steps p.tables e below (T72.setTop (mkF m 48 #[.val (.long jw), .second, .val (.int p2), .val (.int p3), .val (.ref b52), .unset, .unset, .unset, .unset] [(.ref b52)])) _
      refine XS.iconst X72.here hx rfl (hb hby at_48) ?_
      show Steps p.tables e below (T72.setTop (mkF m 49 #[.val (.long jw), .second, .val (.int p2), .val (.int p3), .val (.ref b52), .unset, .unset, .unset, .unset] [(.int (4 : Int32)), (.ref b52)])) _
      refine XS.lloadN X72.here hx rfl (hb hby at_49) rfl ?_
      show Steps p.tables e below (T72.setTop (mkF m 50 #[.val (.long jw), .second, .val (.int p2), .val (.int p3), .val (.ref b52), .unset, .unset, .unset, .unset] [(.long jw), (.int (4 : Int32)), (.ref b52)])) _
      refine XS.iloadN X72.here hx rfl (hb hby at_50) rfl ?_
      show Steps p.tables e below (T72.setTop (mkF m 51 #[.val (.long jw), .second, .val (.int p2), .val (.int p3), .val (.ref b52), .unset, .unset, .unset, .unset] [(.int p2), (.long jw), (.int (4 : Int32)), (.ref b52)])) _
      refine XS.iconst X72.here hx rfl (hb hby at_51) ?_
      show Steps p.tables e below (T72.setTop (mkF m 52 #[.val (.long jw), .second, .val (.int p2), .val (.int p3), .val (.ref b52), .unset, .unset, .unset, .unset] [(.int (4 : Int32)), (.int p2), (.long jw), (.int (4 : Int32)), (.ref b52)])) _
      exact k)
  obtain ⟨_, _, ⟨T75, L75, kk75, nn75⟩, -, X75, ⟨Lc75, hQ75, l75, y75, z75⟩, st75⟩ := Jvm.LawKit.callS X72 hx (y := (⟨"com/example/lune12/lune12/document/JsonSyntaxIsWholePinLaw", "pick", "(JII)B"⟩ : MethodName)) hown (mvT hZ (hw _ (List.mem_of_getElem? (i := 1) rfl))) (mvT hZ (hw _ (List.mem_of_getElem? (i := 2) rfl))) (mvT hZ (hw _ (List.mem_of_getElem? (i := 3) rfl))) (mvT hZ (hw _ (List.mem_of_getElem? (i := 4) rfl))) (by decide) (backOf (W := 2) (rm1 l Z a0 hw [] jw p2 (4 : Int32) h72 n0 Z72) hZ (hw _ (List.mem_of_getElem? (i := 4) rfl)) (hw _ (List.mem_of_getElem? (i := 3) rfl)) (by decide) (by decide)) (g := (mkF m 52 #[.val (.long jw), .second, .val (.int p2), .val (.int p3), .val (.ref b52), .unset, .unset, .unset, .unset] [(.int (4 : Int32)), (.int p2), (.long jw), (.int (4 : Int32)), (.ref b52)])) rfl (by rw [hml]; rfl) (argsL := [(.long jw), (.int p2), (.int (4 : Int32))]) (rest := [(.int (4 : Int32)), (.ref b52)]) (lenOf pd__JII_B rfl) rfl (by show 2 * 0 + _ ≤ _; exact Nat.le_of_eq rfl) (hb hby at_52) (fun _ _ => ⟨rfl, e72, (by decide : 1 + 0 ≤ _), (by decide : 6 + 0 ≤ _)⟩)
  dsimp only [Pt.U, Pt.locs, Pt.cells, Pt.slots] at X75 l75 y75 z75 st75 hQ75
  subst l75 y75 z75
  obtain ⟨rfl, Nq75, e75⟩ := hQ75
  have N75 := Fr.app N72 Nq75
  have q76 : ∀ t, Steps p.tables e below (T75.setTop (mkF m 55 #[.val (.long jw), .second, .val (.int p2), .val (.int p3), .val (.ref b52), .unset, .unset, .unset, .unset] [(.int (own_pk jw p2 (4 : Int32))), (.int (4 : Int32)), (.ref b52)])) t → Steps p.tables e below (s₁.setTop (entryFrame m #[(.long jw), (.int p2), (.int p3)] maxLocals)) t := fun t k => q74 t (st75 t k)
  obtain ⟨cl_4, Ar_4, S_4, M_4, H_4, U_4⟩ := B4
  obtain ⟨T77, h77, X77, e77, W77, st77⟩ := stB X75 hx hZ e75 (Ar_4) (j := (4 : Int32)) (inb_of S_4 ⟨by decide, by decide⟩) (g := (mkF m 55 #[.val (.long jw), .second, .val (.int p2), .val (.int p3), .val (.ref b52), .unset, .unset, .unset, .unset] [(.int (own_pk jw p2 (4 : Int32))), (.int (4 : Int32)), (.ref b52)])) rfl rfl (hb hby at_55)
  have N77 := Fr.snoc X77 N75 (g_b)
  have q78 : ∀ t, Steps p.tables e below (T77.setTop (mkF m 56 #[.val (.long jw), .second, .val (.int p2), .val (.int p3), .val (.ref b52), .unset, .unset, .unset, .unset] [])) t → Steps p.tables e below (s₁.setTop (entryFrame m #[(.long jw), (.int p2), (.int p3)] maxLocals)) t := fun t k => q76 t (st77 t k)
  have Z77 : n0 ≤ h77.size := Nat.le_trans Z72 (Keep.of_wr W77).1
  have B5 := Bt.set Ar_4 S_4 M_4 H_4 U_4 W77
  have q79 : ∀ t, Steps p.tables e below (T77.setTop (mkF m 62 #[.val (.long jw), .second, .val (.int p2), .val (.int p3), .val (.ref b52), .unset, .unset, .unset, .unset] [(.int (5 : Int32)), (.int p2), (.long jw), (.int (5 : Int32)), (.ref b52)])) t → Steps p.tables e below (s₁.setTop (entryFrame m #[(.long jw), (.int p2), (.int p3)] maxLocals)) t := fun t k => q78 t (by
      show Steps p.tables e below (T77.setTop (mkF m 56 #[.val (.long jw), .second, .val (.int p2), .val (.int p3), .val (.ref b52), .unset, .unset, .unset, .unset] [])) _
      refine XS.aload X77.here hx rfl (hb hby at_56) rfl rfl ?_
      show Steps p.tables e below (T77.setTop (mkF m 58 #[.val (.long jw), .second, .val (.int p2), .val (.int p3), .val (.ref b52), .unset, .unset, .unset, .unset] [(.ref b52)])) _
      refine XS.iconst X77.here hx rfl (hb hby at_58) ?_
      show Steps p.tables e below (T77.setTop (mkF m 59 #[.val (.long jw), .second, .val (.int p2), .val (.int p3), .val (.ref b52), .unset, .unset, .unset, .unset] [(.int (5 : Int32)), (.ref b52)])) _
      refine XS.lloadN X77.here hx rfl (hb hby at_59) rfl ?_
      show Steps p.tables e below (T77.setTop (mkF m 60 #[.val (.long jw), .second, .val (.int p2), .val (.int p3), .val (.ref b52), .unset, .unset, .unset, .unset] [(.long jw), (.int (5 : Int32)), (.ref b52)])) _
      refine XS.iloadN X77.here hx rfl (hb hby at_60) rfl ?_
      show Steps p.tables e below (T77.setTop (mkF m 61 #[.val (.long jw), .second, .val (.int p2), .val (.int p3), .val (.ref b52), .unset, .unset, .unset, .unset] [(.int p2), (.long jw), (.int (5 : Int32)), (.ref b52)])) _
      refine XS.iconst X77.here hx rfl (hb hby at_61) ?_
      show Steps p.tables e below (T77.setTop (mkF m 62 #[.val (.long jw), .second, .val (.int p2), .val (.int p3), .val (.ref b52), .unset, .unset, .unset, .unset] [(.int (5 : Int32)), (.int p2), (.long jw), (.int (5 : Int32)), (.ref b52)])) _
      exact k)
  obtain ⟨_, _, ⟨T80, L80, kk80, nn80⟩, -, X80, ⟨Lc80, hQ80, l80, y80, z80⟩, st80⟩ := Jvm.LawKit.callS X77 hx (y := (⟨"com/example/lune12/lune12/document/JsonSyntaxIsWholePinLaw", "pick", "(JII)B"⟩ : MethodName)) hown (mvT hZ (hw _ (List.mem_of_getElem? (i := 1) rfl))) (mvT hZ (hw _ (List.mem_of_getElem? (i := 2) rfl))) (mvT hZ (hw _ (List.mem_of_getElem? (i := 3) rfl))) (mvT hZ (hw _ (List.mem_of_getElem? (i := 4) rfl))) (by decide) (backOf (W := 2) (rm1 l Z a0 hw [] jw p2 (5 : Int32) h77 n0 Z77) hZ (hw _ (List.mem_of_getElem? (i := 4) rfl)) (hw _ (List.mem_of_getElem? (i := 3) rfl)) (by decide) (by decide)) (g := (mkF m 62 #[.val (.long jw), .second, .val (.int p2), .val (.int p3), .val (.ref b52), .unset, .unset, .unset, .unset] [(.int (5 : Int32)), (.int p2), (.long jw), (.int (5 : Int32)), (.ref b52)])) rfl (by rw [hml]; rfl) (argsL := [(.long jw), (.int p2), (.int (5 : Int32))]) (rest := [(.int (5 : Int32)), (.ref b52)]) (lenOf pd__JII_B rfl) rfl (by show 2 * 0 + _ ≤ _; exact Nat.le_of_eq rfl) (hb hby at_62) (fun _ _ => ⟨rfl, e77, (by decide : 1 + 0 ≤ _), (by decide : 6 + 0 ≤ _)⟩)
  dsimp only [Pt.U, Pt.locs, Pt.cells, Pt.slots] at X80 l80 y80 z80 st80 hQ80
  subst l80 y80 z80
  obtain ⟨rfl, Nq80, e80⟩ := hQ80
  have N80 := Fr.app N77 Nq80
  have q81 : ∀ t, Steps p.tables e below (T80.setTop (mkF m 65 #[.val (.long jw), .second, .val (.int p2), .val (.int p3), .val (.ref b52), .unset, .unset, .unset, .unset] [(.int (own_pk jw p2 (5 : Int32))), (.int (5 : Int32)), (.ref b52)])) t → Steps p.tables e below (s₁.setTop (entryFrame m #[(.long jw), (.int p2), (.int p3)] maxLocals)) t := fun t k => q79 t (st80 t k)
  obtain ⟨cl_5, Ar_5, S_5, M_5, H_5, U_5⟩ := B5
  obtain ⟨T82, h82, X82, e82, W82, st82⟩ := stB X80 hx hZ e80 (Ar_5) (j := (5 : Int32)) (inb_of S_5 ⟨by decide, by decide⟩) (g := (mkF m 65 #[.val (.long jw), .second, .val (.int p2), .val (.int p3), .val (.ref b52), .unset, .unset, .unset, .unset] [(.int (own_pk jw p2 (5 : Int32))), (.int (5 : Int32)), (.ref b52)])) rfl rfl (hb hby at_65)
  have N82 := Fr.snoc X82 N80 (g_b)
  have q83 : ∀ t, Steps p.tables e below (T82.setTop (mkF m 66 #[.val (.long jw), .second, .val (.int p2), .val (.int p3), .val (.ref b52), .unset, .unset, .unset, .unset] [])) t → Steps p.tables e below (s₁.setTop (entryFrame m #[(.long jw), (.int p2), (.int p3)] maxLocals)) t := fun t k => q81 t (st82 t k)
  have Z82 : n0 ≤ h82.size := Nat.le_trans Z77 (Keep.of_wr W82).1
  have B6 := Bt.set Ar_5 S_5 M_5 H_5 U_5 W82
  obtain ⟨f, cl, Ar, S, H, U⟩ : ∃ (f : Nat → Int32) (cl : Cell), Arr Z h82 b52 cl .byte ∧ cl.slots.size = 6 ∧ (∀ i, i < cl.slots.size → cl.slots[i]? = some (.int (f i))) ∧ ∀ i, own_by (f i) := by
    obtain ⟨cl, Ar, S, -, H, U⟩ := B6
    exact ⟨_, cl, Ar, S, H, U⟩
  have q84 : ∀ t, Steps p.tables e below (T82.setTop (mkF m 86 #[.val (.long jw), .second, .val (.int p2), .val (.int p3), .val (.ref b52), .val (.int ((p3 &&& (7 : Int32)) % (7 : Int32))), .val (.int ((((p3.toUInt32 >>> ((3 : Int32) &&& 31).toUInt32).toInt32) &&& (7 : Int32)) % (7 : Int32))), .unset, .unset] [])) t → Steps p.tables e below (s₁.setTop (entryFrame m #[(.long jw), (.int p2), (.int p3)] maxLocals)) t := fun t k => q83 t (by
      show Steps p.tables e below (T82.setTop (mkF m 66 #[.val (.long jw), .second, .val (.int p2), .val (.int p3), .val (.ref b52), .unset, .unset, .unset, .unset] [])) _
      refine XS.iloadN X82.here hx rfl (hb hby at_66) rfl ?_
      show Steps p.tables e below (T82.setTop (mkF m 67 #[.val (.long jw), .second, .val (.int p2), .val (.int p3), .val (.ref b52), .unset, .unset, .unset, .unset] [(.int p3)])) _
      refine XS.bipush X82.here hx rfl (hb hby at_67) ?_
      show Steps p.tables e below (T82.setTop (mkF m 69 #[.val (.long jw), .second, .val (.int p2), .val (.int p3), .val (.ref b52), .unset, .unset, .unset, .unset] [(.int (7 : Int32)), (.int p3)])) _
      refine XS.iand X82.here hx rfl (hb hby at_69) rfl ?_
      show Steps p.tables e below (T82.setTop (mkF m 70 #[.val (.long jw), .second, .val (.int p2), .val (.int p3), .val (.ref b52), .unset, .unset, .unset, .unset] [(.int (p3 &&& (7 : Int32)))])) _
      refine XS.bipush X82.here hx rfl (hb hby at_70) ?_
      show Steps p.tables e below (T82.setTop (mkF m 72 #[.val (.long jw), .second, .val (.int p2), .val (.int p3), .val (.ref b52), .unset, .unset, .unset, .unset] [(.int (7 : Int32)), (.int (p3 &&& (7 : Int32)))])) _
      refine iremM X82 hx rfl (hb hby at_72) rfl (by decide) ?_
      show Steps p.tables e below (T82.setTop (mkF m 73 #[.val (.long jw), .second, .val (.int p2), .val (.int p3), .val (.ref b52), .unset, .unset, .unset, .unset] [(.int ((p3 &&& (7 : Int32)) % (7 : Int32)))])) _
      refine XS.istore X82.here hx rfl (hb hby at_73) rfl (l' := #[.val (.long jw), .second, .val (.int p2), .val (.int p3), .val (.ref b52), .val (.int ((p3 &&& (7 : Int32)) % (7 : Int32))), .unset, .unset, .unset]) rfl ?_
      show Steps p.tables e below (T82.setTop (mkF m 75 #[.val (.long jw), .second, .val (.int p2), .val (.int p3), .val (.ref b52), .val (.int ((p3 &&& (7 : Int32)) % (7 : Int32))), .unset, .unset, .unset] [])) _
      refine XS.iloadN X82.here hx rfl (hb hby at_75) rfl ?_
      show Steps p.tables e below (T82.setTop (mkF m 76 #[.val (.long jw), .second, .val (.int p2), .val (.int p3), .val (.ref b52), .val (.int ((p3 &&& (7 : Int32)) % (7 : Int32))), .unset, .unset, .unset] [(.int p3)])) _
      refine XS.iconst X82.here hx rfl (hb hby at_76) ?_
      show Steps p.tables e below (T82.setTop (mkF m 77 #[.val (.long jw), .second, .val (.int p2), .val (.int p3), .val (.ref b52), .val (.int ((p3 &&& (7 : Int32)) % (7 : Int32))), .unset, .unset, .unset] [(.int (3 : Int32)), (.int p3)])) _
      refine XS.iushr X82.here hx rfl (hb hby at_77) rfl ?_
      show Steps p.tables e below (T82.setTop (mkF m 78 #[.val (.long jw), .second, .val (.int p2), .val (.int p3), .val (.ref b52), .val (.int ((p3 &&& (7 : Int32)) % (7 : Int32))), .unset, .unset, .unset] [(.int ((p3.toUInt32 >>> ((3 : Int32) &&& 31).toUInt32).toInt32))])) _
      refine XS.bipush X82.here hx rfl (hb hby at_78) ?_
      show Steps p.tables e below (T82.setTop (mkF m 80 #[.val (.long jw), .second, .val (.int p2), .val (.int p3), .val (.ref b52), .val (.int ((p3 &&& (7 : Int32)) % (7 : Int32))), .unset, .unset, .unset] [(.int (7 : Int32)), (.int ((p3.toUInt32 >>> ((3 : Int32) &&& 31).toUInt32).toInt32))])) _
      refine XS.iand X82.here hx rfl (hb hby at_80) rfl ?_
      show Steps p.tables e below (T82.setTop (mkF m 81 #[.val (.long jw), .second, .val (.int p2), .val (.int p3), .val (.ref b52), .val (.int ((p3 &&& (7 : Int32)) % (7 : Int32))), .unset, .unset, .unset] [(.int (((p3.toUInt32 >>> ((3 : Int32) &&& 31).toUInt32).toInt32) &&& (7 : Int32)))])) _
      refine XS.bipush X82.here hx rfl (hb hby at_81) ?_
      show Steps p.tables e below (T82.setTop (mkF m 83 #[.val (.long jw), .second, .val (.int p2), .val (.int p3), .val (.ref b52), .val (.int ((p3 &&& (7 : Int32)) % (7 : Int32))), .unset, .unset, .unset] [(.int (7 : Int32)), (.int (((p3.toUInt32 >>> ((3 : Int32) &&& 31).toUInt32).toInt32) &&& (7 : Int32)))])) _
      refine iremM X82 hx rfl (hb hby at_83) rfl (by decide) ?_
      show Steps p.tables e below (T82.setTop (mkF m 84 #[.val (.long jw), .second, .val (.int p2), .val (.int p3), .val (.ref b52), .val (.int ((p3 &&& (7 : Int32)) % (7 : Int32))), .unset, .unset, .unset] [(.int ((((p3.toUInt32 >>> ((3 : Int32) &&& 31).toUInt32).toInt32) &&& (7 : Int32)) % (7 : Int32)))])) _
      refine XS.istore X82.here hx rfl (hb hby at_84) rfl (l' := #[.val (.long jw), .second, .val (.int p2), .val (.int p3), .val (.ref b52), .val (.int ((p3 &&& (7 : Int32)) % (7 : Int32))), .val (.int ((((p3.toUInt32 >>> ((3 : Int32) &&& 31).toUInt32).toInt32) &&& (7 : Int32)) % (7 : Int32))), .unset, .unset]) rfl ?_
      show Steps p.tables e below (T82.setTop (mkF m 86 #[.val (.long jw), .second, .val (.int p2), .val (.int p3), .val (.ref b52), .val (.int ((p3 &&& (7 : Int32)) % (7 : Int32))), .val (.int ((((p3.toUInt32 >>> ((3 : Int32) &&& 31).toUInt32).toInt32) &&& (7 : Int32)) % (7 : Int32))), .unset, .unset] [])) _
      exact k)
  have q85 : ∀ t, Steps p.tables e below (T82.setTop (mkF m 86 #[.val (.long jw), .second, .val (.int p2), .val (.int p3), .val (.ref b52), .val (.int (Int32.ofNat sn)), .val (.int ((((p3.toUInt32 >>> ((3 : Int32) &&& 31).toUInt32).toInt32) &&& (7 : Int32)) % (7 : Int32))), .unset, .unset] [])) t → Steps p.tables e below (s₁.setTop (entryFrame m #[(.long jw), (.int p2), (.int p3)] maxLocals)) t := fun t k => q84 t (by rw [show ((p3 &&& (7 : Int32)) % (7 : Int32)) = (Int32.ofNat sn) from (eS).symm]; exact k)
  have q86 : ∀ t, Steps p.tables e below (T82.setTop (mkF m 86 #[.val (.long jw), .second, .val (.int p2), .val (.int p3), .val (.ref b52), .val (.int (Int32.ofNat sn)), .val (.int (Int32.ofNat n)), .unset, .unset] [])) t → Steps p.tables e below (s₁.setTop (entryFrame m #[(.long jw), (.int p2), (.int p3)] maxLocals)) t := fun t k => q85 t (by rw [show ((((p3.toUInt32 >>> ((3 : Int32) &&& 31).toUInt32).toInt32) &&& (7 : Int32)) % (7 : Int32)) = (Int32.ofNat n) from (eN).symm]; exact k)
  have hin_0 : ¬ ((0 : Int32) < 0 ∨ cl.slots.size ≤ (0 : Int32).toNatClampNeg) := by rw [S]; decide
  have hat_0 : cl.slots[(0 : Int32).toNatClampNeg]? = some (.int (f 0)) := H 0 (by rw [S]; decide)
  have q87 : ∀ t, Steps p.tables e below (T82.setTop (mkF m 93 #[.val (.long jw), .second, .val (.int p2), .val (.int p3), .val (.ref b52), .val (.int (Int32.ofNat sn)), .val (.int (Int32.ofNat n)), .unset, .unset] [(.int (Int32.ofNat n)), (.int (Int32.ofNat sn)), (.int (0 : Int32)), (.ref b52)])) t → Steps p.tables e below (s₁.setTop (entryFrame m #[(.long jw), (.int p2), (.int p3)] maxLocals)) t := fun t k => q86 t (by
      show Steps p.tables e below (T82.setTop (mkF m 86 #[.val (.long jw), .second, .val (.int p2), .val (.int p3), .val (.ref b52), .val (.int (Int32.ofNat sn)), .val (.int (Int32.ofNat n)), .unset, .unset] [])) _
      refine XS.aload X82.here hx rfl (hb hby at_86) rfl rfl ?_
      show Steps p.tables e below (T82.setTop (mkF m 88 #[.val (.long jw), .second, .val (.int p2), .val (.int p3), .val (.ref b52), .val (.int (Int32.ofNat sn)), .val (.int (Int32.ofNat n)), .unset, .unset] [(.ref b52)])) _
      refine XS.iconst X82.here hx rfl (hb hby at_88) ?_
      show Steps p.tables e below (T82.setTop (mkF m 89 #[.val (.long jw), .second, .val (.int p2), .val (.int p3), .val (.ref b52), .val (.int (Int32.ofNat sn)), .val (.int (Int32.ofNat n)), .unset, .unset] [(.int (0 : Int32)), (.ref b52)])) _
      refine XS.iload X82.here hx rfl (hb hby at_89) rfl ?_
      show Steps p.tables e below (T82.setTop (mkF m 91 #[.val (.long jw), .second, .val (.int p2), .val (.int p3), .val (.ref b52), .val (.int (Int32.ofNat sn)), .val (.int (Int32.ofNat n)), .unset, .unset] [(.int (Int32.ofNat sn)), (.int (0 : Int32)), (.ref b52)])) _
      refine XS.iload X82.here hx rfl (hb hby at_91) rfl ?_
      show Steps p.tables e below (T82.setTop (mkF m 93 #[.val (.long jw), .second, .val (.int p2), .val (.int p3), .val (.ref b52), .val (.int (Int32.ofNat sn)), .val (.int (Int32.ofNat n)), .unset, .unset] [(.int (Int32.ofNat n)), (.int (Int32.ofNat sn)), (.int (0 : Int32)), (.ref b52)])) _
      exact k)
  obtain ⟨_, _, ⟨T88, L88, kk88, nn88⟩, -, X88, ⟨Lc88, hQ88, l88, y88, z88⟩, st88⟩ := Jvm.LawKit.callS X82 hx (y := (⟨"com/example/lune12/lune12/document/JsonSyntaxIsWholePinLaw", "stopAt", "([BIII)Z"⟩ : MethodName)) hown (mvT hZ (hw _ (List.mem_of_getElem? (i := 5) rfl))) (mvT hZ (hw _ (List.mem_of_getElem? (i := 6) rfl))) (mvT hZ (hw _ (List.mem_of_getElem? (i := 3) rfl))) (mvT hZ (hw _ (List.mem_of_getElem? (i := 7) rfl))) (by decide) (backOf (W := 0) (rm2 l Z a0 hw [] b52 (0 : Int32) (Int32.ofNat sn) (Int32.ofNat n) (f 0) cl h82 n0 Z82 Ar hin_0 hat_0) hZ (hw _ (List.mem_of_getElem? (i := 7) rfl)) (hw _ (List.mem_of_getElem? (i := 3) rfl)) (by decide) (by decide)) (g := (mkF m 93 #[.val (.long jw), .second, .val (.int p2), .val (.int p3), .val (.ref b52), .val (.int (Int32.ofNat sn)), .val (.int (Int32.ofNat n)), .unset, .unset] [(.int (Int32.ofNat n)), (.int (Int32.ofNat sn)), (.int (0 : Int32)), (.ref b52)])) rfl (by rw [hml]; rfl) (argsL := [(.ref b52), (.int (0 : Int32)), (.int (Int32.ofNat sn)), (.int (Int32.ofNat n))]) (rest := []) (lenOf pd___BIII_Z rfl) rfl (by show 2 * 0 + _ ≤ _; exact Nat.le_of_eq rfl) (hb hby at_93) (fun _ _ => ⟨rfl, e82, (by decide : 1 + 0 ≤ _), (by decide : 6 + 0 ≤ _)⟩)
  dsimp only [Pt.U, Pt.locs, Pt.cells, Pt.slots] at X88 l88 y88 z88 st88 hQ88
  subst l88 y88 z88
  obtain ⟨rfl, Nq88, e88⟩ := hQ88
  have N88 := Fr.app N82 Nq88
  have q89 : ∀ t, Steps p.tables e below (T88.setTop (mkF m 96 #[.val (.long jw), .second, .val (.int p2), .val (.int p3), .val (.ref b52), .val (.int (Int32.ofNat sn)), .val (.int (Int32.ofNat n)), .unset, .unset] [(.int (own_stop (0 : Int32) (Int32.ofNat sn) (Int32.ofNat n) (f 0)))])) t → Steps p.tables e below (s₁.setTop (entryFrame m #[(.long jw), (.int p2), (.int p3)] maxLocals)) t := fun t k => q87 t (st88 t k)
  by_cases t_0 : (own_stop (0 : Int32) (Int32.ofNat sn) (Int32.ofNat n) (f 0)) = (0 : Int32)
  · skip
    have u_0 : ¬ (sn ≤ 0 ∧ 0 < n ∧ own_dot (f 0)) := (own_stop_iff (j := 0) hs hn (by decide) (U 0)).1 t_0
    have hin_1 : ¬ ((1 : Int32) < 0 ∨ cl.slots.size ≤ (1 : Int32).toNatClampNeg) := by rw [S]; decide
    have hat_1 : cl.slots[(1 : Int32).toNatClampNeg]? = some (.int (f 1)) := H 1 (by rw [S]; decide)
    have q90 : ∀ t, Steps p.tables e below (T88.setTop (mkF m 106 #[.val (.long jw), .second, .val (.int p2), .val (.int p3), .val (.ref b52), .val (.int (Int32.ofNat sn)), .val (.int (Int32.ofNat n)), .unset, .unset] [(.int (Int32.ofNat n)), (.int (Int32.ofNat sn)), (.int (1 : Int32)), (.ref b52)])) t → Steps p.tables e below (s₁.setTop (entryFrame m #[(.long jw), (.int p2), (.int p3)] maxLocals)) t := fun t k => q89 t (by
        show Steps p.tables e below (T88.setTop (mkF m 96 #[.val (.long jw), .second, .val (.int p2), .val (.int p3), .val (.ref b52), .val (.int (Int32.ofNat sn)), .val (.int (Int32.ofNat n)), .unset, .unset] [(.int (own_stop (0 : Int32) (Int32.ofNat sn) (Int32.ofNat n) (f 0)))])) _
        refine XS.ifNo X88.here hx rfl (hb hby at_96) rfl (XT.i0_ne_f (t_0 : (own_stop (0 : Int32) (Int32.ofNat sn) (Int32.ofNat n) (f 0)) = (0 : Int32))) ?_
        show Steps p.tables e below (T88.setTop (mkF m 99 #[.val (.long jw), .second, .val (.int p2), .val (.int p3), .val (.ref b52), .val (.int (Int32.ofNat sn)), .val (.int (Int32.ofNat n)), .unset, .unset] [])) _
        refine XS.aload X88.here hx rfl (hb hby at_99) rfl rfl ?_
        show Steps p.tables e below (T88.setTop (mkF m 101 #[.val (.long jw), .second, .val (.int p2), .val (.int p3), .val (.ref b52), .val (.int (Int32.ofNat sn)), .val (.int (Int32.ofNat n)), .unset, .unset] [(.ref b52)])) _
        refine XS.iconst X88.here hx rfl (hb hby at_101) ?_
        show Steps p.tables e below (T88.setTop (mkF m 102 #[.val (.long jw), .second, .val (.int p2), .val (.int p3), .val (.ref b52), .val (.int (Int32.ofNat sn)), .val (.int (Int32.ofNat n)), .unset, .unset] [(.int (1 : Int32)), (.ref b52)])) _
        refine XS.iload X88.here hx rfl (hb hby at_102) rfl ?_
        show Steps p.tables e below (T88.setTop (mkF m 104 #[.val (.long jw), .second, .val (.int p2), .val (.int p3), .val (.ref b52), .val (.int (Int32.ofNat sn)), .val (.int (Int32.ofNat n)), .unset, .unset] [(.int (Int32.ofNat sn)), (.int (1 : Int32)), (.ref b52)])) _
        refine XS.iload X88.here hx rfl (hb hby at_104) rfl ?_
        show Steps p.tables e below (T88.setTop (mkF m 106 #[.val (.long jw), .second, .val (.int p2), .val (.int p3), .val (.ref b52), .val (.int (Int32.ofNat sn)), .val (.int (Int32.ofNat n)), .unset, .unset] [(.int (Int32.ofNat n)), (.int (Int32.ofNat sn)), (.int (1 : Int32)), (.ref b52)])) _
        exact k)
    obtain ⟨_, _, ⟨T91, L91, kk91, nn91⟩, -, X91, ⟨Lc91, hQ91, l91, y91, z91⟩, st91⟩ := Jvm.LawKit.callS X88 hx (y := (⟨"com/example/lune12/lune12/document/JsonSyntaxIsWholePinLaw", "stopAt", "([BIII)Z"⟩ : MethodName)) hown (mvT hZ (hw _ (List.mem_of_getElem? (i := 5) rfl))) (mvT hZ (hw _ (List.mem_of_getElem? (i := 6) rfl))) (mvT hZ (hw _ (List.mem_of_getElem? (i := 3) rfl))) (mvT hZ (hw _ (List.mem_of_getElem? (i := 7) rfl))) (by decide) (backOf (W := 0) (rm2 l Z a0 hw [] b52 (1 : Int32) (Int32.ofNat sn) (Int32.ofNat n) (f 1) cl h82 n0 Z82 Ar hin_1 hat_1) hZ (hw _ (List.mem_of_getElem? (i := 7) rfl)) (hw _ (List.mem_of_getElem? (i := 3) rfl)) (by decide) (by decide)) (g := (mkF m 106 #[.val (.long jw), .second, .val (.int p2), .val (.int p3), .val (.ref b52), .val (.int (Int32.ofNat sn)), .val (.int (Int32.ofNat n)), .unset, .unset] [(.int (Int32.ofNat n)), (.int (Int32.ofNat sn)), (.int (1 : Int32)), (.ref b52)])) rfl (by rw [hml]; rfl) (argsL := [(.ref b52), (.int (1 : Int32)), (.int (Int32.ofNat sn)), (.int (Int32.ofNat n))]) (rest := []) (lenOf pd___BIII_Z rfl) rfl (by show 2 * 0 + _ ≤ _; exact Nat.le_of_eq rfl) (hb hby at_106) (fun _ _ => ⟨rfl, e88, (by decide : 1 + 0 ≤ _), (by decide : 6 + 0 ≤ _)⟩)
    dsimp only [Pt.U, Pt.locs, Pt.cells, Pt.slots] at X91 l91 y91 z91 st91 hQ91
    subst l91 y91 z91
    obtain ⟨rfl, Nq91, e91⟩ := hQ91
    have N91 := Fr.app N88 Nq91
    have q92 : ∀ t, Steps p.tables e below (T91.setTop (mkF m 109 #[.val (.long jw), .second, .val (.int p2), .val (.int p3), .val (.ref b52), .val (.int (Int32.ofNat sn)), .val (.int (Int32.ofNat n)), .unset, .unset] [(.int (own_stop (1 : Int32) (Int32.ofNat sn) (Int32.ofNat n) (f 1)))])) t → Steps p.tables e below (s₁.setTop (entryFrame m #[(.long jw), (.int p2), (.int p3)] maxLocals)) t := fun t k => q90 t (st91 t k)
    by_cases t_1 : (own_stop (1 : Int32) (Int32.ofNat sn) (Int32.ofNat n) (f 1)) = (0 : Int32)
    · skip
      have u_1 : ¬ (sn ≤ 1 ∧ 1 < n ∧ own_dot (f 1)) := (own_stop_iff (j := 1) hs hn (by decide) (U 1)).1 t_1
      have hin_2 : ¬ ((2 : Int32) < 0 ∨ cl.slots.size ≤ (2 : Int32).toNatClampNeg) := by rw [S]; decide
      have hat_2 : cl.slots[(2 : Int32).toNatClampNeg]? = some (.int (f 2)) := H 2 (by rw [S]; decide)
      have q93 : ∀ t, Steps p.tables e below (T91.setTop (mkF m 119 #[.val (.long jw), .second, .val (.int p2), .val (.int p3), .val (.ref b52), .val (.int (Int32.ofNat sn)), .val (.int (Int32.ofNat n)), .unset, .unset] [(.int (Int32.ofNat n)), (.int (Int32.ofNat sn)), (.int (2 : Int32)), (.ref b52)])) t → Steps p.tables e below (s₁.setTop (entryFrame m #[(.long jw), (.int p2), (.int p3)] maxLocals)) t := fun t k => q92 t (by
          show Steps p.tables e below (T91.setTop (mkF m 109 #[.val (.long jw), .second, .val (.int p2), .val (.int p3), .val (.ref b52), .val (.int (Int32.ofNat sn)), .val (.int (Int32.ofNat n)), .unset, .unset] [(.int (own_stop (1 : Int32) (Int32.ofNat sn) (Int32.ofNat n) (f 1)))])) _
          refine XS.ifNo X91.here hx rfl (hb hby at_109) rfl (XT.i0_ne_f (t_1 : (own_stop (1 : Int32) (Int32.ofNat sn) (Int32.ofNat n) (f 1)) = (0 : Int32))) ?_
          show Steps p.tables e below (T91.setTop (mkF m 112 #[.val (.long jw), .second, .val (.int p2), .val (.int p3), .val (.ref b52), .val (.int (Int32.ofNat sn)), .val (.int (Int32.ofNat n)), .unset, .unset] [])) _
          refine XS.aload X91.here hx rfl (hb hby at_112) rfl rfl ?_
          show Steps p.tables e below (T91.setTop (mkF m 114 #[.val (.long jw), .second, .val (.int p2), .val (.int p3), .val (.ref b52), .val (.int (Int32.ofNat sn)), .val (.int (Int32.ofNat n)), .unset, .unset] [(.ref b52)])) _
          refine XS.iconst X91.here hx rfl (hb hby at_114) ?_
          show Steps p.tables e below (T91.setTop (mkF m 115 #[.val (.long jw), .second, .val (.int p2), .val (.int p3), .val (.ref b52), .val (.int (Int32.ofNat sn)), .val (.int (Int32.ofNat n)), .unset, .unset] [(.int (2 : Int32)), (.ref b52)])) _
          refine XS.iload X91.here hx rfl (hb hby at_115) rfl ?_
          show Steps p.tables e below (T91.setTop (mkF m 117 #[.val (.long jw), .second, .val (.int p2), .val (.int p3), .val (.ref b52), .val (.int (Int32.ofNat sn)), .val (.int (Int32.ofNat n)), .unset, .unset] [(.int (Int32.ofNat sn)), (.int (2 : Int32)), (.ref b52)])) _
          refine XS.iload X91.here hx rfl (hb hby at_117) rfl ?_
          show Steps p.tables e below (T91.setTop (mkF m 119 #[.val (.long jw), .second, .val (.int p2), .val (.int p3), .val (.ref b52), .val (.int (Int32.ofNat sn)), .val (.int (Int32.ofNat n)), .unset, .unset] [(.int (Int32.ofNat n)), (.int (Int32.ofNat sn)), (.int (2 : Int32)), (.ref b52)])) _
          exact k)
      obtain ⟨_, _, ⟨T94, L94, kk94, nn94⟩, -, X94, ⟨Lc94, hQ94, l94, y94, z94⟩, st94⟩ := Jvm.LawKit.callS X91 hx (y := (⟨"com/example/lune12/lune12/document/JsonSyntaxIsWholePinLaw", "stopAt", "([BIII)Z"⟩ : MethodName)) hown (mvT hZ (hw _ (List.mem_of_getElem? (i := 5) rfl))) (mvT hZ (hw _ (List.mem_of_getElem? (i := 6) rfl))) (mvT hZ (hw _ (List.mem_of_getElem? (i := 3) rfl))) (mvT hZ (hw _ (List.mem_of_getElem? (i := 7) rfl))) (by decide) (backOf (W := 0) (rm2 l Z a0 hw [] b52 (2 : Int32) (Int32.ofNat sn) (Int32.ofNat n) (f 2) cl h82 n0 Z82 Ar hin_2 hat_2) hZ (hw _ (List.mem_of_getElem? (i := 7) rfl)) (hw _ (List.mem_of_getElem? (i := 3) rfl)) (by decide) (by decide)) (g := (mkF m 119 #[.val (.long jw), .second, .val (.int p2), .val (.int p3), .val (.ref b52), .val (.int (Int32.ofNat sn)), .val (.int (Int32.ofNat n)), .unset, .unset] [(.int (Int32.ofNat n)), (.int (Int32.ofNat sn)), (.int (2 : Int32)), (.ref b52)])) rfl (by rw [hml]; rfl) (argsL := [(.ref b52), (.int (2 : Int32)), (.int (Int32.ofNat sn)), (.int (Int32.ofNat n))]) (rest := []) (lenOf pd___BIII_Z rfl) rfl (by show 2 * 0 + _ ≤ _; exact Nat.le_of_eq rfl) (hb hby at_119) (fun _ _ => ⟨rfl, e91, (by decide : 1 + 0 ≤ _), (by decide : 6 + 0 ≤ _)⟩)
      dsimp only [Pt.U, Pt.locs, Pt.cells, Pt.slots] at X94 l94 y94 z94 st94 hQ94
      subst l94 y94 z94
      obtain ⟨rfl, Nq94, e94⟩ := hQ94
      have N94 := Fr.app N91 Nq94
      have q95 : ∀ t, Steps p.tables e below (T94.setTop (mkF m 122 #[.val (.long jw), .second, .val (.int p2), .val (.int p3), .val (.ref b52), .val (.int (Int32.ofNat sn)), .val (.int (Int32.ofNat n)), .unset, .unset] [(.int (own_stop (2 : Int32) (Int32.ofNat sn) (Int32.ofNat n) (f 2)))])) t → Steps p.tables e below (s₁.setTop (entryFrame m #[(.long jw), (.int p2), (.int p3)] maxLocals)) t := fun t k => q93 t (st94 t k)
      by_cases t_2 : (own_stop (2 : Int32) (Int32.ofNat sn) (Int32.ofNat n) (f 2)) = (0 : Int32)
      · skip
        have u_2 : ¬ (sn ≤ 2 ∧ 2 < n ∧ own_dot (f 2)) := (own_stop_iff (j := 2) hs hn (by decide) (U 2)).1 t_2
        have hin_3 : ¬ ((3 : Int32) < 0 ∨ cl.slots.size ≤ (3 : Int32).toNatClampNeg) := by rw [S]; decide
        have hat_3 : cl.slots[(3 : Int32).toNatClampNeg]? = some (.int (f 3)) := H 3 (by rw [S]; decide)
        have q96 : ∀ t, Steps p.tables e below (T94.setTop (mkF m 132 #[.val (.long jw), .second, .val (.int p2), .val (.int p3), .val (.ref b52), .val (.int (Int32.ofNat sn)), .val (.int (Int32.ofNat n)), .unset, .unset] [(.int (Int32.ofNat n)), (.int (Int32.ofNat sn)), (.int (3 : Int32)), (.ref b52)])) t → Steps p.tables e below (s₁.setTop (entryFrame m #[(.long jw), (.int p2), (.int p3)] maxLocals)) t := fun t k => q95 t (by
            show Steps p.tables e below (T94.setTop (mkF m 122 #[.val (.long jw), .second, .val (.int p2), .val (.int p3), .val (.ref b52), .val (.int (Int32.ofNat sn)), .val (.int (Int32.ofNat n)), .unset, .unset] [(.int (own_stop (2 : Int32) (Int32.ofNat sn) (Int32.ofNat n) (f 2)))])) _
            refine XS.ifNo X94.here hx rfl (hb hby at_122) rfl (XT.i0_ne_f (t_2 : (own_stop (2 : Int32) (Int32.ofNat sn) (Int32.ofNat n) (f 2)) = (0 : Int32))) ?_
            show Steps p.tables e below (T94.setTop (mkF m 125 #[.val (.long jw), .second, .val (.int p2), .val (.int p3), .val (.ref b52), .val (.int (Int32.ofNat sn)), .val (.int (Int32.ofNat n)), .unset, .unset] [])) _
            refine XS.aload X94.here hx rfl (hb hby at_125) rfl rfl ?_
            show Steps p.tables e below (T94.setTop (mkF m 127 #[.val (.long jw), .second, .val (.int p2), .val (.int p3), .val (.ref b52), .val (.int (Int32.ofNat sn)), .val (.int (Int32.ofNat n)), .unset, .unset] [(.ref b52)])) _
            refine XS.iconst X94.here hx rfl (hb hby at_127) ?_
            show Steps p.tables e below (T94.setTop (mkF m 128 #[.val (.long jw), .second, .val (.int p2), .val (.int p3), .val (.ref b52), .val (.int (Int32.ofNat sn)), .val (.int (Int32.ofNat n)), .unset, .unset] [(.int (3 : Int32)), (.ref b52)])) _
            refine XS.iload X94.here hx rfl (hb hby at_128) rfl ?_
            show Steps p.tables e below (T94.setTop (mkF m 130 #[.val (.long jw), .second, .val (.int p2), .val (.int p3), .val (.ref b52), .val (.int (Int32.ofNat sn)), .val (.int (Int32.ofNat n)), .unset, .unset] [(.int (Int32.ofNat sn)), (.int (3 : Int32)), (.ref b52)])) _
            refine XS.iload X94.here hx rfl (hb hby at_130) rfl ?_
            show Steps p.tables e below (T94.setTop (mkF m 132 #[.val (.long jw), .second, .val (.int p2), .val (.int p3), .val (.ref b52), .val (.int (Int32.ofNat sn)), .val (.int (Int32.ofNat n)), .unset, .unset] [(.int (Int32.ofNat n)), (.int (Int32.ofNat sn)), (.int (3 : Int32)), (.ref b52)])) _
            exact k)
        obtain ⟨_, _, ⟨T97, L97, kk97, nn97⟩, -, X97, ⟨Lc97, hQ97, l97, y97, z97⟩, st97⟩ := Jvm.LawKit.callS X94 hx (y := (⟨"com/example/lune12/lune12/document/JsonSyntaxIsWholePinLaw", "stopAt", "([BIII)Z"⟩ : MethodName)) hown (mvT hZ (hw _ (List.mem_of_getElem? (i := 5) rfl))) (mvT hZ (hw _ (List.mem_of_getElem? (i := 6) rfl))) (mvT hZ (hw _ (List.mem_of_getElem? (i := 3) rfl))) (mvT hZ (hw _ (List.mem_of_getElem? (i := 7) rfl))) (by decide) (backOf (W := 0) (rm2 l Z a0 hw [] b52 (3 : Int32) (Int32.ofNat sn) (Int32.ofNat n) (f 3) cl h82 n0 Z82 Ar hin_3 hat_3) hZ (hw _ (List.mem_of_getElem? (i := 7) rfl)) (hw _ (List.mem_of_getElem? (i := 3) rfl)) (by decide) (by decide)) (g := (mkF m 132 #[.val (.long jw), .second, .val (.int p2), .val (.int p3), .val (.ref b52), .val (.int (Int32.ofNat sn)), .val (.int (Int32.ofNat n)), .unset, .unset] [(.int (Int32.ofNat n)), (.int (Int32.ofNat sn)), (.int (3 : Int32)), (.ref b52)])) rfl (by rw [hml]; rfl) (argsL := [(.ref b52), (.int (3 : Int32)), (.int (Int32.ofNat sn)), (.int (Int32.ofNat n))]) (rest := []) (lenOf pd___BIII_Z rfl) rfl (by show 2 * 0 + _ ≤ _; exact Nat.le_of_eq rfl) (hb hby at_132) (fun _ _ => ⟨rfl, e94, (by decide : 1 + 0 ≤ _), (by decide : 6 + 0 ≤ _)⟩)
        dsimp only [Pt.U, Pt.locs, Pt.cells, Pt.slots] at X97 l97 y97 z97 st97 hQ97
        subst l97 y97 z97
        obtain ⟨rfl, Nq97, e97⟩ := hQ97
        have N97 := Fr.app N94 Nq97
        have q98 : ∀ t, Steps p.tables e below (T97.setTop (mkF m 135 #[.val (.long jw), .second, .val (.int p2), .val (.int p3), .val (.ref b52), .val (.int (Int32.ofNat sn)), .val (.int (Int32.ofNat n)), .unset, .unset] [(.int (own_stop (3 : Int32) (Int32.ofNat sn) (Int32.ofNat n) (f 3)))])) t → Steps p.tables e below (s₁.setTop (entryFrame m #[(.long jw), (.int p2), (.int p3)] maxLocals)) t := fun t k => q96 t (st97 t k)
        by_cases t_3 : (own_stop (3 : Int32) (Int32.ofNat sn) (Int32.ofNat n) (f 3)) = (0 : Int32)
        · skip
          have u_3 : ¬ (sn ≤ 3 ∧ 3 < n ∧ own_dot (f 3)) := (own_stop_iff (j := 3) hs hn (by decide) (U 3)).1 t_3
          have hin_4 : ¬ ((4 : Int32) < 0 ∨ cl.slots.size ≤ (4 : Int32).toNatClampNeg) := by rw [S]; decide
          have hat_4 : cl.slots[(4 : Int32).toNatClampNeg]? = some (.int (f 4)) := H 4 (by rw [S]; decide)
          have q99 : ∀ t, Steps p.tables e below (T97.setTop (mkF m 145 #[.val (.long jw), .second, .val (.int p2), .val (.int p3), .val (.ref b52), .val (.int (Int32.ofNat sn)), .val (.int (Int32.ofNat n)), .unset, .unset] [(.int (Int32.ofNat n)), (.int (Int32.ofNat sn)), (.int (4 : Int32)), (.ref b52)])) t → Steps p.tables e below (s₁.setTop (entryFrame m #[(.long jw), (.int p2), (.int p3)] maxLocals)) t := fun t k => q98 t (by
              show Steps p.tables e below (T97.setTop (mkF m 135 #[.val (.long jw), .second, .val (.int p2), .val (.int p3), .val (.ref b52), .val (.int (Int32.ofNat sn)), .val (.int (Int32.ofNat n)), .unset, .unset] [(.int (own_stop (3 : Int32) (Int32.ofNat sn) (Int32.ofNat n) (f 3)))])) _
              refine XS.ifNo X97.here hx rfl (hb hby at_135) rfl (XT.i0_ne_f (t_3 : (own_stop (3 : Int32) (Int32.ofNat sn) (Int32.ofNat n) (f 3)) = (0 : Int32))) ?_
              show Steps p.tables e below (T97.setTop (mkF m 138 #[.val (.long jw), .second, .val (.int p2), .val (.int p3), .val (.ref b52), .val (.int (Int32.ofNat sn)), .val (.int (Int32.ofNat n)), .unset, .unset] [])) _
              refine XS.aload X97.here hx rfl (hb hby at_138) rfl rfl ?_
              show Steps p.tables e below (T97.setTop (mkF m 140 #[.val (.long jw), .second, .val (.int p2), .val (.int p3), .val (.ref b52), .val (.int (Int32.ofNat sn)), .val (.int (Int32.ofNat n)), .unset, .unset] [(.ref b52)])) _
              refine XS.iconst X97.here hx rfl (hb hby at_140) ?_
              show Steps p.tables e below (T97.setTop (mkF m 141 #[.val (.long jw), .second, .val (.int p2), .val (.int p3), .val (.ref b52), .val (.int (Int32.ofNat sn)), .val (.int (Int32.ofNat n)), .unset, .unset] [(.int (4 : Int32)), (.ref b52)])) _
              refine XS.iload X97.here hx rfl (hb hby at_141) rfl ?_
              show Steps p.tables e below (T97.setTop (mkF m 143 #[.val (.long jw), .second, .val (.int p2), .val (.int p3), .val (.ref b52), .val (.int (Int32.ofNat sn)), .val (.int (Int32.ofNat n)), .unset, .unset] [(.int (Int32.ofNat sn)), (.int (4 : Int32)), (.ref b52)])) _
              refine XS.iload X97.here hx rfl (hb hby at_143) rfl ?_
              show Steps p.tables e below (T97.setTop (mkF m 145 #[.val (.long jw), .second, .val (.int p2), .val (.int p3), .val (.ref b52), .val (.int (Int32.ofNat sn)), .val (.int (Int32.ofNat n)), .unset, .unset] [(.int (Int32.ofNat n)), (.int (Int32.ofNat sn)), (.int (4 : Int32)), (.ref b52)])) _
              exact k)
          obtain ⟨_, _, ⟨T100, L100, kk100, nn100⟩, -, X100, ⟨Lc100, hQ100, l100, y100, z100⟩, st100⟩ := Jvm.LawKit.callS X97 hx (y := (⟨"com/example/lune12/lune12/document/JsonSyntaxIsWholePinLaw", "stopAt", "([BIII)Z"⟩ : MethodName)) hown (mvT hZ (hw _ (List.mem_of_getElem? (i := 5) rfl))) (mvT hZ (hw _ (List.mem_of_getElem? (i := 6) rfl))) (mvT hZ (hw _ (List.mem_of_getElem? (i := 3) rfl))) (mvT hZ (hw _ (List.mem_of_getElem? (i := 7) rfl))) (by decide) (backOf (W := 0) (rm2 l Z a0 hw [] b52 (4 : Int32) (Int32.ofNat sn) (Int32.ofNat n) (f 4) cl h82 n0 Z82 Ar hin_4 hat_4) hZ (hw _ (List.mem_of_getElem? (i := 7) rfl)) (hw _ (List.mem_of_getElem? (i := 3) rfl)) (by decide) (by decide)) (g := (mkF m 145 #[.val (.long jw), .second, .val (.int p2), .val (.int p3), .val (.ref b52), .val (.int (Int32.ofNat sn)), .val (.int (Int32.ofNat n)), .unset, .unset] [(.int (Int32.ofNat n)), (.int (Int32.ofNat sn)), (.int (4 : Int32)), (.ref b52)])) rfl (by rw [hml]; rfl) (argsL := [(.ref b52), (.int (4 : Int32)), (.int (Int32.ofNat sn)), (.int (Int32.ofNat n))]) (rest := []) (lenOf pd___BIII_Z rfl) rfl (by show 2 * 0 + _ ≤ _; exact Nat.le_of_eq rfl) (hb hby at_145) (fun _ _ => ⟨rfl, e97, (by decide : 1 + 0 ≤ _), (by decide : 6 + 0 ≤ _)⟩)
          dsimp only [Pt.U, Pt.locs, Pt.cells, Pt.slots] at X100 l100 y100 z100 st100 hQ100
          subst l100 y100 z100
          obtain ⟨rfl, Nq100, e100⟩ := hQ100
          have N100 := Fr.app N97 Nq100
          have q101 : ∀ t, Steps p.tables e below (T100.setTop (mkF m 148 #[.val (.long jw), .second, .val (.int p2), .val (.int p3), .val (.ref b52), .val (.int (Int32.ofNat sn)), .val (.int (Int32.ofNat n)), .unset, .unset] [(.int (own_stop (4 : Int32) (Int32.ofNat sn) (Int32.ofNat n) (f 4)))])) t → Steps p.tables e below (s₁.setTop (entryFrame m #[(.long jw), (.int p2), (.int p3)] maxLocals)) t := fun t k => q99 t (st100 t k)
          by_cases t_4 : (own_stop (4 : Int32) (Int32.ofNat sn) (Int32.ofNat n) (f 4)) = (0 : Int32)
          · skip
            have u_4 : ¬ (sn ≤ 4 ∧ 4 < n ∧ own_dot (f 4)) := (own_stop_iff (j := 4) hs hn (by decide) (U 4)).1 t_4
            have hin_5 : ¬ ((5 : Int32) < 0 ∨ cl.slots.size ≤ (5 : Int32).toNatClampNeg) := by rw [S]; decide
            have hat_5 : cl.slots[(5 : Int32).toNatClampNeg]? = some (.int (f 5)) := H 5 (by rw [S]; decide)
            have q102 : ∀ t, Steps p.tables e below (T100.setTop (mkF m 158 #[.val (.long jw), .second, .val (.int p2), .val (.int p3), .val (.ref b52), .val (.int (Int32.ofNat sn)), .val (.int (Int32.ofNat n)), .unset, .unset] [(.int (Int32.ofNat n)), (.int (Int32.ofNat sn)), (.int (5 : Int32)), (.ref b52)])) t → Steps p.tables e below (s₁.setTop (entryFrame m #[(.long jw), (.int p2), (.int p3)] maxLocals)) t := fun t k => q101 t (by
                show Steps p.tables e below (T100.setTop (mkF m 148 #[.val (.long jw), .second, .val (.int p2), .val (.int p3), .val (.ref b52), .val (.int (Int32.ofNat sn)), .val (.int (Int32.ofNat n)), .unset, .unset] [(.int (own_stop (4 : Int32) (Int32.ofNat sn) (Int32.ofNat n) (f 4)))])) _
                refine XS.ifNo X100.here hx rfl (hb hby at_148) rfl (XT.i0_ne_f (t_4 : (own_stop (4 : Int32) (Int32.ofNat sn) (Int32.ofNat n) (f 4)) = (0 : Int32))) ?_
                show Steps p.tables e below (T100.setTop (mkF m 151 #[.val (.long jw), .second, .val (.int p2), .val (.int p3), .val (.ref b52), .val (.int (Int32.ofNat sn)), .val (.int (Int32.ofNat n)), .unset, .unset] [])) _
                refine XS.aload X100.here hx rfl (hb hby at_151) rfl rfl ?_
                show Steps p.tables e below (T100.setTop (mkF m 153 #[.val (.long jw), .second, .val (.int p2), .val (.int p3), .val (.ref b52), .val (.int (Int32.ofNat sn)), .val (.int (Int32.ofNat n)), .unset, .unset] [(.ref b52)])) _
                refine XS.iconst X100.here hx rfl (hb hby at_153) ?_
                show Steps p.tables e below (T100.setTop (mkF m 154 #[.val (.long jw), .second, .val (.int p2), .val (.int p3), .val (.ref b52), .val (.int (Int32.ofNat sn)), .val (.int (Int32.ofNat n)), .unset, .unset] [(.int (5 : Int32)), (.ref b52)])) _
                refine XS.iload X100.here hx rfl (hb hby at_154) rfl ?_
                show Steps p.tables e below (T100.setTop (mkF m 156 #[.val (.long jw), .second, .val (.int p2), .val (.int p3), .val (.ref b52), .val (.int (Int32.ofNat sn)), .val (.int (Int32.ofNat n)), .unset, .unset] [(.int (Int32.ofNat sn)), (.int (5 : Int32)), (.ref b52)])) _
                refine XS.iload X100.here hx rfl (hb hby at_156) rfl ?_
                show Steps p.tables e below (T100.setTop (mkF m 158 #[.val (.long jw), .second, .val (.int p2), .val (.int p3), .val (.ref b52), .val (.int (Int32.ofNat sn)), .val (.int (Int32.ofNat n)), .unset, .unset] [(.int (Int32.ofNat n)), (.int (Int32.ofNat sn)), (.int (5 : Int32)), (.ref b52)])) _
                exact k)
            obtain ⟨_, _, ⟨T103, L103, kk103, nn103⟩, -, X103, ⟨Lc103, hQ103, l103, y103, z103⟩, st103⟩ := Jvm.LawKit.callS X100 hx (y := (⟨"com/example/lune12/lune12/document/JsonSyntaxIsWholePinLaw", "stopAt", "([BIII)Z"⟩ : MethodName)) hown (mvT hZ (hw _ (List.mem_of_getElem? (i := 5) rfl))) (mvT hZ (hw _ (List.mem_of_getElem? (i := 6) rfl))) (mvT hZ (hw _ (List.mem_of_getElem? (i := 3) rfl))) (mvT hZ (hw _ (List.mem_of_getElem? (i := 7) rfl))) (by decide) (backOf (W := 0) (rm2 l Z a0 hw [] b52 (5 : Int32) (Int32.ofNat sn) (Int32.ofNat n) (f 5) cl h82 n0 Z82 Ar hin_5 hat_5) hZ (hw _ (List.mem_of_getElem? (i := 7) rfl)) (hw _ (List.mem_of_getElem? (i := 3) rfl)) (by decide) (by decide)) (g := (mkF m 158 #[.val (.long jw), .second, .val (.int p2), .val (.int p3), .val (.ref b52), .val (.int (Int32.ofNat sn)), .val (.int (Int32.ofNat n)), .unset, .unset] [(.int (Int32.ofNat n)), (.int (Int32.ofNat sn)), (.int (5 : Int32)), (.ref b52)])) rfl (by rw [hml]; rfl) (argsL := [(.ref b52), (.int (5 : Int32)), (.int (Int32.ofNat sn)), (.int (Int32.ofNat n))]) (rest := []) (lenOf pd___BIII_Z rfl) rfl (by show 2 * 0 + _ ≤ _; exact Nat.le_of_eq rfl) (hb hby at_158) (fun _ _ => ⟨rfl, e100, (by decide : 1 + 0 ≤ _), (by decide : 6 + 0 ≤ _)⟩)
            dsimp only [Pt.U, Pt.locs, Pt.cells, Pt.slots] at X103 l103 y103 z103 st103 hQ103
            subst l103 y103 z103
            obtain ⟨rfl, Nq103, e103⟩ := hQ103
            have N103 := Fr.app N100 Nq103
            have q104 : ∀ t, Steps p.tables e below (T103.setTop (mkF m 161 #[.val (.long jw), .second, .val (.int p2), .val (.int p3), .val (.ref b52), .val (.int (Int32.ofNat sn)), .val (.int (Int32.ofNat n)), .unset, .unset] [(.int (own_stop (5 : Int32) (Int32.ofNat sn) (Int32.ofNat n) (f 5)))])) t → Steps p.tables e below (s₁.setTop (entryFrame m #[(.long jw), (.int p2), (.int p3)] maxLocals)) t := fun t k => q102 t (st103 t k)
            by_cases t_5 : (own_stop (5 : Int32) (Int32.ofNat sn) (Int32.ofNat n) (f 5)) = (0 : Int32)
            · skip
              have u_5 : ¬ (sn ≤ 5 ∧ 5 < n ∧ own_dot (f 5)) := (own_stop_iff (j := 5) hs hn (by decide) (U 5)).1 t_5
              have q105 : ∀ t, Steps p.tables e below (T103.setTop (mkF m 189 #[.val (.long jw), .second, .val (.int p2), .val (.int p3), .val (.ref b52), .val (.int (Int32.ofNat sn)), .val (.int (Int32.ofNat n)), .val (.int (0 : Int32)), .val (.int (1 : Int32))] [(.int (Int32.ofNat n)), (.int (Int32.ofNat sn)), (.ref b52)])) t → Steps p.tables e below (s₁.setTop (entryFrame m #[(.long jw), (.int p2), (.int p3)] maxLocals)) t := fun t k => q104 t (by
                  show Steps p.tables e below (T103.setTop (mkF m 161 #[.val (.long jw), .second, .val (.int p2), .val (.int p3), .val (.ref b52), .val (.int (Int32.ofNat sn)), .val (.int (Int32.ofNat n)), .unset, .unset] [(.int (own_stop (5 : Int32) (Int32.ofNat sn) (Int32.ofNat n) (f 5)))])) _
                  refine XS.ifYes X103.here hx rfl (pc0 := 161) (pc' := 168) rfl (hb hby at_161) rfl (XT.i0_eq_t (t_5 : (own_stop (5 : Int32) (Int32.ofNat sn) (Int32.ofNat n) (f 5)) = (0 : Int32))) (by decide) (by decide) ?_
                  show Steps p.tables e below (T103.setTop (mkF m 168 #[.val (.long jw), .second, .val (.int p2), .val (.int p3), .val (.ref b52), .val (.int (Int32.ofNat sn)), .val (.int (Int32.ofNat n)), .unset, .unset] [])) _
                  refine XS.iconst X103.here hx rfl (hb hby at_168) ?_
                  show Steps p.tables e below (T103.setTop (mkF m 169 #[.val (.long jw), .second, .val (.int p2), .val (.int p3), .val (.ref b52), .val (.int (Int32.ofNat sn)), .val (.int (Int32.ofNat n)), .unset, .unset] [(.int (0 : Int32))])) _
                  refine XS.istore X103.here hx rfl (hb hby at_169) rfl (l' := #[.val (.long jw), .second, .val (.int p2), .val (.int p3), .val (.ref b52), .val (.int (Int32.ofNat sn)), .val (.int (Int32.ofNat n)), .val (.int (0 : Int32)), .unset]) rfl ?_
                  show Steps p.tables e below (T103.setTop (mkF m 171 #[.val (.long jw), .second, .val (.int p2), .val (.int p3), .val (.ref b52), .val (.int (Int32.ofNat sn)), .val (.int (Int32.ofNat n)), .val (.int (0 : Int32)), .unset] [])) _
                  refine XS.iload X103.here hx rfl (hb hby at_171) rfl ?_
                  show Steps p.tables e below (T103.setTop (mkF m 173 #[.val (.long jw), .second, .val (.int p2), .val (.int p3), .val (.ref b52), .val (.int (Int32.ofNat sn)), .val (.int (Int32.ofNat n)), .val (.int (0 : Int32)), .unset] [(.int (0 : Int32))])) _
                  refine XS.ifNo X103.here hx rfl (hb hby at_173) rfl (XT.i0_ne_f (rfl : (0 : Int32) = (0 : Int32))) ?_
                  show Steps p.tables e below (T103.setTop (mkF m 176 #[.val (.long jw), .second, .val (.int p2), .val (.int p3), .val (.ref b52), .val (.int (Int32.ofNat sn)), .val (.int (Int32.ofNat n)), .val (.int (0 : Int32)), .unset] [])) _
                  refine XS.iconst X103.here hx rfl (hb hby at_176) ?_
                  show Steps p.tables e below (T103.setTop (mkF m 177 #[.val (.long jw), .second, .val (.int p2), .val (.int p3), .val (.ref b52), .val (.int (Int32.ofNat sn)), .val (.int (Int32.ofNat n)), .val (.int (0 : Int32)), .unset] [(.int (1 : Int32))])) _
                  refine XS.goto X103.here hx rfl (pc0 := 177) (pc' := 181) rfl (hb hby at_177) (by decide) (by decide) ?_
                  show Steps p.tables e below (T103.setTop (mkF m 181 #[.val (.long jw), .second, .val (.int p2), .val (.int p3), .val (.ref b52), .val (.int (Int32.ofNat sn)), .val (.int (Int32.ofNat n)), .val (.int (0 : Int32)), .unset] [(.int (1 : Int32))])) _
                  refine XS.istore X103.here hx rfl (hb hby at_181) rfl (l' := #[.val (.long jw), .second, .val (.int p2), .val (.int p3), .val (.ref b52), .val (.int (Int32.ofNat sn)), .val (.int (Int32.ofNat n)), .val (.int (0 : Int32)), .val (.int (1 : Int32))]) rfl ?_
                  show Steps p.tables e below (T103.setTop (mkF m 183 #[.val (.long jw), .second, .val (.int p2), .val (.int p3), .val (.ref b52), .val (.int (Int32.ofNat sn)), .val (.int (Int32.ofNat n)), .val (.int (0 : Int32)), .val (.int (1 : Int32))] [])) _
                  refine XS.aload X103.here hx rfl (hb hby at_183) rfl rfl ?_
                  show Steps p.tables e below (T103.setTop (mkF m 185 #[.val (.long jw), .second, .val (.int p2), .val (.int p3), .val (.ref b52), .val (.int (Int32.ofNat sn)), .val (.int (Int32.ofNat n)), .val (.int (0 : Int32)), .val (.int (1 : Int32))] [(.ref b52)])) _
                  refine XS.iload X103.here hx rfl (hb hby at_185) rfl ?_
                  show Steps p.tables e below (T103.setTop (mkF m 187 #[.val (.long jw), .second, .val (.int p2), .val (.int p3), .val (.ref b52), .val (.int (Int32.ofNat sn)), .val (.int (Int32.ofNat n)), .val (.int (0 : Int32)), .val (.int (1 : Int32))] [(.int (Int32.ofNat sn)), (.ref b52)])) _
                  refine XS.iload X103.here hx rfl (hb hby at_187) rfl ?_
                  show Steps p.tables e below (T103.setTop (mkF m 189 #[.val (.long jw), .second, .val (.int p2), .val (.int p3), .val (.ref b52), .val (.int (Int32.ofNat sn)), .val (.int (Int32.ofNat n)), .val (.int (0 : Int32)), .val (.int (1 : Int32))] [(.int (Int32.ofNat n)), (.int (Int32.ofNat sn)), (.ref b52)])) _
                  exact k)
              obtain ⟨_, _, ⟨T106, L106, kk106, nn106⟩, -, X106, ⟨Lc106, hQ106, l106, y106, z106⟩, st106⟩ := Jvm.LawKit.callS X103 hx (y := (⟨"com/example/lune12/lune12/document/JsonSyntax", "isWhole", "([BII)Z"⟩ : MethodName)) hown (mvT hZ (hw _ (List.mem_of_getElem? (i := 8) rfl))) (mvT hZ (hw _ (List.mem_of_getElem? (i := 9) rfl))) (mvT hZ (hw _ (List.mem_of_getElem? (i := 10) rfl))) (mvT hZ (hw _ (List.mem_of_getElem? (i := 11) rfl))) (by decide) (backOf (W := 0) (rm3 l Z a0 hw [] b52 sn n hs hn f cl h82 n0 Z82 Ar S H) hZ (hw _ (List.mem_of_getElem? (i := 11) rfl)) (hw _ (List.mem_of_getElem? (i := 10) rfl)) (by decide) (by decide)) (g := (mkF m 189 #[.val (.long jw), .second, .val (.int p2), .val (.int p3), .val (.ref b52), .val (.int (Int32.ofNat sn)), .val (.int (Int32.ofNat n)), .val (.int (0 : Int32)), .val (.int (1 : Int32))] [(.int (Int32.ofNat n)), (.int (Int32.ofNat sn)), (.ref b52)])) rfl (by rw [hml]; rfl) (argsL := [(.ref b52), (.int (Int32.ofNat sn)), (.int (Int32.ofNat n))]) (rest := []) (lenOf pd___BII_Z rfl) rfl (by show 2 * 0 + _ ≤ _; exact Nat.le_of_eq rfl) (hb hby at_189) (fun _ _ => ⟨rfl, e103, (by decide : 1 + 0 ≤ _), (by decide : 6 + 0 ≤ _)⟩)
              dsimp only [Pt.U, Pt.locs, Pt.cells, Pt.slots] at X106 l106 y106 z106 st106 hQ106
              subst l106 y106 z106
              obtain ⟨rfl, Nq106, e106⟩ := hQ106
              have N106 := Fr.app N103 Nq106
              have q107 : ∀ t, Steps p.tables e below (T106.setTop (mkF m 192 #[.val (.long jw), .second, .val (.int p2), .val (.int p3), .val (.ref b52), .val (.int (Int32.ofNat sn)), .val (.int (Int32.ofNat n)), .val (.int (0 : Int32)), .val (.int (1 : Int32))] [(.int (own_wh f (n - sn) sn))])) t → Steps p.tables e below (s₁.setTop (entryFrame m #[(.long jw), (.int p2), (.int p3)] maxLocals)) t := fun t k => q105 t (st106 t k)
              have q108 : ∀ t, Steps p.tables e below (T106.setTop (mkF m 202 #[.val (.long jw), .second, .val (.int p2), .val (.int p3), .val (.ref b52), .val (.int (Int32.ofNat sn)), .val (.int (Int32.ofNat n)), .val (.int (0 : Int32)), .val (.int (1 : Int32))] [(.int (1 : Int32))])) t → Steps p.tables e below (s₁.setTop (entryFrame m #[(.long jw), (.int p2), (.int p3)] maxLocals)) t := fun t k => q107 t (by
                  show Steps p.tables e below (T106.setTop (mkF m 192 #[.val (.long jw), .second, .val (.int p2), .val (.int p3), .val (.ref b52), .val (.int (Int32.ofNat sn)), .val (.int (Int32.ofNat n)), .val (.int (0 : Int32)), .val (.int (1 : Int32))] [(.int (own_wh f (n - sn) sn))])) _
                  refine XS.iload X106.here hx rfl (hb hby at_192) rfl ?_
                  show Steps p.tables e below (T106.setTop (mkF m 194 #[.val (.long jw), .second, .val (.int p2), .val (.int p3), .val (.ref b52), .val (.int (Int32.ofNat sn)), .val (.int (Int32.ofNat n)), .val (.int (0 : Int32)), .val (.int (1 : Int32))] [(.int (1 : Int32)), (.int (own_wh f (n - sn) sn))])) _
                  refine XS.icmpNo X106.here hx rfl (hb hby at_194) rfl (XT.ii_ne_f (own_no hn u_0 u_1 u_2 u_3 u_4 u_5 : (own_wh f (n - sn) sn) = (1 : Int32))) ?_
                  show Steps p.tables e below (T106.setTop (mkF m 197 #[.val (.long jw), .second, .val (.int p2), .val (.int p3), .val (.ref b52), .val (.int (Int32.ofNat sn)), .val (.int (Int32.ofNat n)), .val (.int (0 : Int32)), .val (.int (1 : Int32))] [])) _
                  refine XS.iconst X106.here hx rfl (hb hby at_197) ?_
                  show Steps p.tables e below (T106.setTop (mkF m 198 #[.val (.long jw), .second, .val (.int p2), .val (.int p3), .val (.ref b52), .val (.int (Int32.ofNat sn)), .val (.int (Int32.ofNat n)), .val (.int (0 : Int32)), .val (.int (1 : Int32))] [(.int (1 : Int32))])) _
                  refine XS.goto X106.here hx rfl (pc0 := 198) (pc' := 202) rfl (hb hby at_198) (by decide) (by decide) ?_
                  show Steps p.tables e below (T106.setTop (mkF m 202 #[.val (.long jw), .second, .val (.int p2), .val (.int p3), .val (.ref b52), .val (.int (Int32.ofNat sn)), .val (.int (Int32.ofNat n)), .val (.int (0 : Int32)), .val (.int (1 : Int32))] [(.int (1 : Int32))])) _
                  exact k)
              obtain ⟨fs, hr, hrun, hended, hW, hsame⟩ := X106.leave (v := some (.int (1 : Int32))) (fun h => by rw [Bd.returns] at h; cases h)
              refine ⟨_, _, q108 _ ?_, hrun, hended, _, _, rfl, ?_, ⟨_, rfl⟩, hW, hsame.mono (by decide) (by decide)⟩
              · show Steps p.tables e below (T106.setTop (mkF m 202 #[.val (.long jw), .second, .val (.int p2), .val (.int p3), .val (.ref b52), .val (.int (Int32.ofNat sn)), .val (.int (Int32.ofNat n)), .val (.int (0 : Int32)), .val (.int (1 : Int32))] [(.int (1 : Int32))])) _
                exact retN X106 hx (t := .boolean) Bd.returns (by simp) (hb hby at_202) hr
              · show QL n0 _ T106.heap _
                exact ⟨rfl, N106⟩
            · skip
              have u_5 : sn ≤ 5 ∧ 5 < n ∧ own_dot (f 5) := (own_stop_iff (j := 5) hs hn (by decide) (U 5)).2 t_5
              have q109 : ∀ t, Steps p.tables e below (T103.setTop (mkF m 189 #[.val (.long jw), .second, .val (.int p2), .val (.int p3), .val (.ref b52), .val (.int (Int32.ofNat sn)), .val (.int (Int32.ofNat n)), .val (.int (1 : Int32)), .val (.int (0 : Int32))] [(.int (Int32.ofNat n)), (.int (Int32.ofNat sn)), (.ref b52)])) t → Steps p.tables e below (s₁.setTop (entryFrame m #[(.long jw), (.int p2), (.int p3)] maxLocals)) t := fun t k => q104 t (by
                  show Steps p.tables e below (T103.setTop (mkF m 161 #[.val (.long jw), .second, .val (.int p2), .val (.int p3), .val (.ref b52), .val (.int (Int32.ofNat sn)), .val (.int (Int32.ofNat n)), .unset, .unset] [(.int (own_stop (5 : Int32) (Int32.ofNat sn) (Int32.ofNat n) (f 5)))])) _
                  refine XS.ifNo X103.here hx rfl (hb hby at_161) rfl (XT.i0_eq_f (t_5 : ¬ ((own_stop (5 : Int32) (Int32.ofNat sn) (Int32.ofNat n) (f 5)) = (0 : Int32)))) ?_
                  show Steps p.tables e below (T103.setTop (mkF m 164 #[.val (.long jw), .second, .val (.int p2), .val (.int p3), .val (.ref b52), .val (.int (Int32.ofNat sn)), .val (.int (Int32.ofNat n)), .unset, .unset] [])) _
                  refine XS.iconst X103.here hx rfl (hb hby at_164) ?_
                  show Steps p.tables e below (T103.setTop (mkF m 165 #[.val (.long jw), .second, .val (.int p2), .val (.int p3), .val (.ref b52), .val (.int (Int32.ofNat sn)), .val (.int (Int32.ofNat n)), .unset, .unset] [(.int (1 : Int32))])) _
                  refine XS.goto X103.here hx rfl (pc0 := 165) (pc' := 169) rfl (hb hby at_165) (by decide) (by decide) ?_
                  show Steps p.tables e below (T103.setTop (mkF m 169 #[.val (.long jw), .second, .val (.int p2), .val (.int p3), .val (.ref b52), .val (.int (Int32.ofNat sn)), .val (.int (Int32.ofNat n)), .unset, .unset] [(.int (1 : Int32))])) _
                  refine XS.istore X103.here hx rfl (hb hby at_169) rfl (l' := #[.val (.long jw), .second, .val (.int p2), .val (.int p3), .val (.ref b52), .val (.int (Int32.ofNat sn)), .val (.int (Int32.ofNat n)), .val (.int (1 : Int32)), .unset]) rfl ?_
                  show Steps p.tables e below (T103.setTop (mkF m 171 #[.val (.long jw), .second, .val (.int p2), .val (.int p3), .val (.ref b52), .val (.int (Int32.ofNat sn)), .val (.int (Int32.ofNat n)), .val (.int (1 : Int32)), .unset] [])) _
                  refine XS.iload X103.here hx rfl (hb hby at_171) rfl ?_
                  show Steps p.tables e below (T103.setTop (mkF m 173 #[.val (.long jw), .second, .val (.int p2), .val (.int p3), .val (.ref b52), .val (.int (Int32.ofNat sn)), .val (.int (Int32.ofNat n)), .val (.int (1 : Int32)), .unset] [(.int (1 : Int32))])) _
                  refine XS.ifYes X103.here hx rfl (pc0 := 173) (pc' := 180) rfl (hb hby at_173) rfl (XT.i0_ne_t (by decide : ¬ ((1 : Int32) = (0 : Int32)))) (by decide) (by decide) ?_
                  show Steps p.tables e below (T103.setTop (mkF m 180 #[.val (.long jw), .second, .val (.int p2), .val (.int p3), .val (.ref b52), .val (.int (Int32.ofNat sn)), .val (.int (Int32.ofNat n)), .val (.int (1 : Int32)), .unset] [])) _
                  refine XS.iconst X103.here hx rfl (hb hby at_180) ?_
                  show Steps p.tables e below (T103.setTop (mkF m 181 #[.val (.long jw), .second, .val (.int p2), .val (.int p3), .val (.ref b52), .val (.int (Int32.ofNat sn)), .val (.int (Int32.ofNat n)), .val (.int (1 : Int32)), .unset] [(.int (0 : Int32))])) _
                  refine XS.istore X103.here hx rfl (hb hby at_181) rfl (l' := #[.val (.long jw), .second, .val (.int p2), .val (.int p3), .val (.ref b52), .val (.int (Int32.ofNat sn)), .val (.int (Int32.ofNat n)), .val (.int (1 : Int32)), .val (.int (0 : Int32))]) rfl ?_
                  show Steps p.tables e below (T103.setTop (mkF m 183 #[.val (.long jw), .second, .val (.int p2), .val (.int p3), .val (.ref b52), .val (.int (Int32.ofNat sn)), .val (.int (Int32.ofNat n)), .val (.int (1 : Int32)), .val (.int (0 : Int32))] [])) _
                  refine XS.aload X103.here hx rfl (hb hby at_183) rfl rfl ?_
                  show Steps p.tables e below (T103.setTop (mkF m 185 #[.val (.long jw), .second, .val (.int p2), .val (.int p3), .val (.ref b52), .val (.int (Int32.ofNat sn)), .val (.int (Int32.ofNat n)), .val (.int (1 : Int32)), .val (.int (0 : Int32))] [(.ref b52)])) _
                  refine XS.iload X103.here hx rfl (hb hby at_185) rfl ?_
                  show Steps p.tables e below (T103.setTop (mkF m 187 #[.val (.long jw), .second, .val (.int p2), .val (.int p3), .val (.ref b52), .val (.int (Int32.ofNat sn)), .val (.int (Int32.ofNat n)), .val (.int (1 : Int32)), .val (.int (0 : Int32))] [(.int (Int32.ofNat sn)), (.ref b52)])) _
                  refine XS.iload X103.here hx rfl (hb hby at_187) rfl ?_
                  show Steps p.tables e below (T103.setTop (mkF m 189 #[.val (.long jw), .second, .val (.int p2), .val (.int p3), .val (.ref b52), .val (.int (Int32.ofNat sn)), .val (.int (Int32.ofNat n)), .val (.int (1 : Int32)), .val (.int (0 : Int32))] [(.int (Int32.ofNat n)), (.int (Int32.ofNat sn)), (.ref b52)])) _
                  exact k)
              obtain ⟨_, _, ⟨T110, L110, kk110, nn110⟩, -, X110, ⟨Lc110, hQ110, l110, y110, z110⟩, st110⟩ := Jvm.LawKit.callS X103 hx (y := (⟨"com/example/lune12/lune12/document/JsonSyntax", "isWhole", "([BII)Z"⟩ : MethodName)) hown (mvT hZ (hw _ (List.mem_of_getElem? (i := 8) rfl))) (mvT hZ (hw _ (List.mem_of_getElem? (i := 9) rfl))) (mvT hZ (hw _ (List.mem_of_getElem? (i := 10) rfl))) (mvT hZ (hw _ (List.mem_of_getElem? (i := 11) rfl))) (by decide) (backOf (W := 0) (rm3 l Z a0 hw [] b52 sn n hs hn f cl h82 n0 Z82 Ar S H) hZ (hw _ (List.mem_of_getElem? (i := 11) rfl)) (hw _ (List.mem_of_getElem? (i := 10) rfl)) (by decide) (by decide)) (g := (mkF m 189 #[.val (.long jw), .second, .val (.int p2), .val (.int p3), .val (.ref b52), .val (.int (Int32.ofNat sn)), .val (.int (Int32.ofNat n)), .val (.int (1 : Int32)), .val (.int (0 : Int32))] [(.int (Int32.ofNat n)), (.int (Int32.ofNat sn)), (.ref b52)])) rfl (by rw [hml]; rfl) (argsL := [(.ref b52), (.int (Int32.ofNat sn)), (.int (Int32.ofNat n))]) (rest := []) (lenOf pd___BII_Z rfl) rfl (by show 2 * 0 + _ ≤ _; exact Nat.le_of_eq rfl) (hb hby at_189) (fun _ _ => ⟨rfl, e103, (by decide : 1 + 0 ≤ _), (by decide : 6 + 0 ≤ _)⟩)
              dsimp only [Pt.U, Pt.locs, Pt.cells, Pt.slots] at X110 l110 y110 z110 st110 hQ110
              subst l110 y110 z110
              obtain ⟨rfl, Nq110, e110⟩ := hQ110
              have N110 := Fr.app N103 Nq110
              have q111 : ∀ t, Steps p.tables e below (T110.setTop (mkF m 192 #[.val (.long jw), .second, .val (.int p2), .val (.int p3), .val (.ref b52), .val (.int (Int32.ofNat sn)), .val (.int (Int32.ofNat n)), .val (.int (1 : Int32)), .val (.int (0 : Int32))] [(.int (own_wh f (n - sn) sn))])) t → Steps p.tables e below (s₁.setTop (entryFrame m #[(.long jw), (.int p2), (.int p3)] maxLocals)) t := fun t k => q109 t (st110 t k)
              have q112 : ∀ t, Steps p.tables e below (T110.setTop (mkF m 202 #[.val (.long jw), .second, .val (.int p2), .val (.int p3), .val (.ref b52), .val (.int (Int32.ofNat sn)), .val (.int (Int32.ofNat n)), .val (.int (1 : Int32)), .val (.int (0 : Int32))] [(.int (1 : Int32))])) t → Steps p.tables e below (s₁.setTop (entryFrame m #[(.long jw), (.int p2), (.int p3)] maxLocals)) t := fun t k => q111 t (by
                  show Steps p.tables e below (T110.setTop (mkF m 192 #[.val (.long jw), .second, .val (.int p2), .val (.int p3), .val (.ref b52), .val (.int (Int32.ofNat sn)), .val (.int (Int32.ofNat n)), .val (.int (1 : Int32)), .val (.int (0 : Int32))] [(.int (own_wh f (n - sn) sn))])) _
                  refine XS.iload X110.here hx rfl (hb hby at_192) rfl ?_
                  show Steps p.tables e below (T110.setTop (mkF m 194 #[.val (.long jw), .second, .val (.int p2), .val (.int p3), .val (.ref b52), .val (.int (Int32.ofNat sn)), .val (.int (Int32.ofNat n)), .val (.int (1 : Int32)), .val (.int (0 : Int32))] [(.int (0 : Int32)), (.int (own_wh f (n - sn) sn))])) _
                  refine XS.icmpNo X110.here hx rfl (hb hby at_194) rfl (XT.ii_ne_f (own_yes u_5 : (own_wh f (n - sn) sn) = (0 : Int32))) ?_
                  show Steps p.tables e below (T110.setTop (mkF m 197 #[.val (.long jw), .second, .val (.int p2), .val (.int p3), .val (.ref b52), .val (.int (Int32.ofNat sn)), .val (.int (Int32.ofNat n)), .val (.int (1 : Int32)), .val (.int (0 : Int32))] [])) _
                  refine XS.iconst X110.here hx rfl (hb hby at_197) ?_
                  show Steps p.tables e below (T110.setTop (mkF m 198 #[.val (.long jw), .second, .val (.int p2), .val (.int p3), .val (.ref b52), .val (.int (Int32.ofNat sn)), .val (.int (Int32.ofNat n)), .val (.int (1 : Int32)), .val (.int (0 : Int32))] [(.int (1 : Int32))])) _
                  refine XS.goto X110.here hx rfl (pc0 := 198) (pc' := 202) rfl (hb hby at_198) (by decide) (by decide) ?_
                  show Steps p.tables e below (T110.setTop (mkF m 202 #[.val (.long jw), .second, .val (.int p2), .val (.int p3), .val (.ref b52), .val (.int (Int32.ofNat sn)), .val (.int (Int32.ofNat n)), .val (.int (1 : Int32)), .val (.int (0 : Int32))] [(.int (1 : Int32))])) _
                  exact k)
              obtain ⟨fs, hr, hrun, hended, hW, hsame⟩ := X110.leave (v := some (.int (1 : Int32))) (fun h => by rw [Bd.returns] at h; cases h)
              refine ⟨_, _, q112 _ ?_, hrun, hended, _, _, rfl, ?_, ⟨_, rfl⟩, hW, hsame.mono (by decide) (by decide)⟩
              · show Steps p.tables e below (T110.setTop (mkF m 202 #[.val (.long jw), .second, .val (.int p2), .val (.int p3), .val (.ref b52), .val (.int (Int32.ofNat sn)), .val (.int (Int32.ofNat n)), .val (.int (1 : Int32)), .val (.int (0 : Int32))] [(.int (1 : Int32))])) _
                exact retN X110 hx (t := .boolean) Bd.returns (by simp) (hb hby at_202) hr
              · show QL n0 _ T110.heap _
                exact ⟨rfl, N110⟩
          · skip
            have u_4 : sn ≤ 4 ∧ 4 < n ∧ own_dot (f 4) := (own_stop_iff (j := 4) hs hn (by decide) (U 4)).2 t_4
            have q113 : ∀ t, Steps p.tables e below (T100.setTop (mkF m 189 #[.val (.long jw), .second, .val (.int p2), .val (.int p3), .val (.ref b52), .val (.int (Int32.ofNat sn)), .val (.int (Int32.ofNat n)), .val (.int (1 : Int32)), .val (.int (0 : Int32))] [(.int (Int32.ofNat n)), (.int (Int32.ofNat sn)), (.ref b52)])) t → Steps p.tables e below (s₁.setTop (entryFrame m #[(.long jw), (.int p2), (.int p3)] maxLocals)) t := fun t k => q101 t (by
                show Steps p.tables e below (T100.setTop (mkF m 148 #[.val (.long jw), .second, .val (.int p2), .val (.int p3), .val (.ref b52), .val (.int (Int32.ofNat sn)), .val (.int (Int32.ofNat n)), .unset, .unset] [(.int (own_stop (4 : Int32) (Int32.ofNat sn) (Int32.ofNat n) (f 4)))])) _
                refine XS.ifYes X100.here hx rfl (pc0 := 148) (pc' := 164) rfl (hb hby at_148) rfl (XT.i0_ne_t (t_4 : ¬ ((own_stop (4 : Int32) (Int32.ofNat sn) (Int32.ofNat n) (f 4)) = (0 : Int32)))) (by decide) (by decide) ?_
                show Steps p.tables e below (T100.setTop (mkF m 164 #[.val (.long jw), .second, .val (.int p2), .val (.int p3), .val (.ref b52), .val (.int (Int32.ofNat sn)), .val (.int (Int32.ofNat n)), .unset, .unset] [])) _
                refine XS.iconst X100.here hx rfl (hb hby at_164) ?_
                show Steps p.tables e below (T100.setTop (mkF m 165 #[.val (.long jw), .second, .val (.int p2), .val (.int p3), .val (.ref b52), .val (.int (Int32.ofNat sn)), .val (.int (Int32.ofNat n)), .unset, .unset] [(.int (1 : Int32))])) _
                refine XS.goto X100.here hx rfl (pc0 := 165) (pc' := 169) rfl (hb hby at_165) (by decide) (by decide) ?_
                show Steps p.tables e below (T100.setTop (mkF m 169 #[.val (.long jw), .second, .val (.int p2), .val (.int p3), .val (.ref b52), .val (.int (Int32.ofNat sn)), .val (.int (Int32.ofNat n)), .unset, .unset] [(.int (1 : Int32))])) _
                refine XS.istore X100.here hx rfl (hb hby at_169) rfl (l' := #[.val (.long jw), .second, .val (.int p2), .val (.int p3), .val (.ref b52), .val (.int (Int32.ofNat sn)), .val (.int (Int32.ofNat n)), .val (.int (1 : Int32)), .unset]) rfl ?_
                show Steps p.tables e below (T100.setTop (mkF m 171 #[.val (.long jw), .second, .val (.int p2), .val (.int p3), .val (.ref b52), .val (.int (Int32.ofNat sn)), .val (.int (Int32.ofNat n)), .val (.int (1 : Int32)), .unset] [])) _
                refine XS.iload X100.here hx rfl (hb hby at_171) rfl ?_
                show Steps p.tables e below (T100.setTop (mkF m 173 #[.val (.long jw), .second, .val (.int p2), .val (.int p3), .val (.ref b52), .val (.int (Int32.ofNat sn)), .val (.int (Int32.ofNat n)), .val (.int (1 : Int32)), .unset] [(.int (1 : Int32))])) _
                refine XS.ifYes X100.here hx rfl (pc0 := 173) (pc' := 180) rfl (hb hby at_173) rfl (XT.i0_ne_t (by decide : ¬ ((1 : Int32) = (0 : Int32)))) (by decide) (by decide) ?_
                show Steps p.tables e below (T100.setTop (mkF m 180 #[.val (.long jw), .second, .val (.int p2), .val (.int p3), .val (.ref b52), .val (.int (Int32.ofNat sn)), .val (.int (Int32.ofNat n)), .val (.int (1 : Int32)), .unset] [])) _
                refine XS.iconst X100.here hx rfl (hb hby at_180) ?_
                show Steps p.tables e below (T100.setTop (mkF m 181 #[.val (.long jw), .second, .val (.int p2), .val (.int p3), .val (.ref b52), .val (.int (Int32.ofNat sn)), .val (.int (Int32.ofNat n)), .val (.int (1 : Int32)), .unset] [(.int (0 : Int32))])) _
                refine XS.istore X100.here hx rfl (hb hby at_181) rfl (l' := #[.val (.long jw), .second, .val (.int p2), .val (.int p3), .val (.ref b52), .val (.int (Int32.ofNat sn)), .val (.int (Int32.ofNat n)), .val (.int (1 : Int32)), .val (.int (0 : Int32))]) rfl ?_
                show Steps p.tables e below (T100.setTop (mkF m 183 #[.val (.long jw), .second, .val (.int p2), .val (.int p3), .val (.ref b52), .val (.int (Int32.ofNat sn)), .val (.int (Int32.ofNat n)), .val (.int (1 : Int32)), .val (.int (0 : Int32))] [])) _
                refine XS.aload X100.here hx rfl (hb hby at_183) rfl rfl ?_
                show Steps p.tables e below (T100.setTop (mkF m 185 #[.val (.long jw), .second, .val (.int p2), .val (.int p3), .val (.ref b52), .val (.int (Int32.ofNat sn)), .val (.int (Int32.ofNat n)), .val (.int (1 : Int32)), .val (.int (0 : Int32))] [(.ref b52)])) _
                refine XS.iload X100.here hx rfl (hb hby at_185) rfl ?_
                show Steps p.tables e below (T100.setTop (mkF m 187 #[.val (.long jw), .second, .val (.int p2), .val (.int p3), .val (.ref b52), .val (.int (Int32.ofNat sn)), .val (.int (Int32.ofNat n)), .val (.int (1 : Int32)), .val (.int (0 : Int32))] [(.int (Int32.ofNat sn)), (.ref b52)])) _
                refine XS.iload X100.here hx rfl (hb hby at_187) rfl ?_
                show Steps p.tables e below (T100.setTop (mkF m 189 #[.val (.long jw), .second, .val (.int p2), .val (.int p3), .val (.ref b52), .val (.int (Int32.ofNat sn)), .val (.int (Int32.ofNat n)), .val (.int (1 : Int32)), .val (.int (0 : Int32))] [(.int (Int32.ofNat n)), (.int (Int32.ofNat sn)), (.ref b52)])) _
                exact k)
            obtain ⟨_, _, ⟨T114, L114, kk114, nn114⟩, -, X114, ⟨Lc114, hQ114, l114, y114, z114⟩, st114⟩ := Jvm.LawKit.callS X100 hx (y := (⟨"com/example/lune12/lune12/document/JsonSyntax", "isWhole", "([BII)Z"⟩ : MethodName)) hown (mvT hZ (hw _ (List.mem_of_getElem? (i := 8) rfl))) (mvT hZ (hw _ (List.mem_of_getElem? (i := 9) rfl))) (mvT hZ (hw _ (List.mem_of_getElem? (i := 10) rfl))) (mvT hZ (hw _ (List.mem_of_getElem? (i := 11) rfl))) (by decide) (backOf (W := 0) (rm3 l Z a0 hw [] b52 sn n hs hn f cl h82 n0 Z82 Ar S H) hZ (hw _ (List.mem_of_getElem? (i := 11) rfl)) (hw _ (List.mem_of_getElem? (i := 10) rfl)) (by decide) (by decide)) (g := (mkF m 189 #[.val (.long jw), .second, .val (.int p2), .val (.int p3), .val (.ref b52), .val (.int (Int32.ofNat sn)), .val (.int (Int32.ofNat n)), .val (.int (1 : Int32)), .val (.int (0 : Int32))] [(.int (Int32.ofNat n)), (.int (Int32.ofNat sn)), (.ref b52)])) rfl (by rw [hml]; rfl) (argsL := [(.ref b52), (.int (Int32.ofNat sn)), (.int (Int32.ofNat n))]) (rest := []) (lenOf pd___BII_Z rfl) rfl (by show 2 * 0 + _ ≤ _; exact Nat.le_of_eq rfl) (hb hby at_189) (fun _ _ => ⟨rfl, e100, (by decide : 1 + 0 ≤ _), (by decide : 6 + 0 ≤ _)⟩)
            dsimp only [Pt.U, Pt.locs, Pt.cells, Pt.slots] at X114 l114 y114 z114 st114 hQ114
            subst l114 y114 z114
            obtain ⟨rfl, Nq114, e114⟩ := hQ114
            have N114 := Fr.app N100 Nq114
            have q115 : ∀ t, Steps p.tables e below (T114.setTop (mkF m 192 #[.val (.long jw), .second, .val (.int p2), .val (.int p3), .val (.ref b52), .val (.int (Int32.ofNat sn)), .val (.int (Int32.ofNat n)), .val (.int (1 : Int32)), .val (.int (0 : Int32))] [(.int (own_wh f (n - sn) sn))])) t → Steps p.tables e below (s₁.setTop (entryFrame m #[(.long jw), (.int p2), (.int p3)] maxLocals)) t := fun t k => q113 t (st114 t k)
            have q116 : ∀ t, Steps p.tables e below (T114.setTop (mkF m 202 #[.val (.long jw), .second, .val (.int p2), .val (.int p3), .val (.ref b52), .val (.int (Int32.ofNat sn)), .val (.int (Int32.ofNat n)), .val (.int (1 : Int32)), .val (.int (0 : Int32))] [(.int (1 : Int32))])) t → Steps p.tables e below (s₁.setTop (entryFrame m #[(.long jw), (.int p2), (.int p3)] maxLocals)) t := fun t k => q115 t (by
                show Steps p.tables e below (T114.setTop (mkF m 192 #[.val (.long jw), .second, .val (.int p2), .val (.int p3), .val (.ref b52), .val (.int (Int32.ofNat sn)), .val (.int (Int32.ofNat n)), .val (.int (1 : Int32)), .val (.int (0 : Int32))] [(.int (own_wh f (n - sn) sn))])) _
                refine XS.iload X114.here hx rfl (hb hby at_192) rfl ?_
                show Steps p.tables e below (T114.setTop (mkF m 194 #[.val (.long jw), .second, .val (.int p2), .val (.int p3), .val (.ref b52), .val (.int (Int32.ofNat sn)), .val (.int (Int32.ofNat n)), .val (.int (1 : Int32)), .val (.int (0 : Int32))] [(.int (0 : Int32)), (.int (own_wh f (n - sn) sn))])) _
                refine XS.icmpNo X114.here hx rfl (hb hby at_194) rfl (XT.ii_ne_f (own_yes u_4 : (own_wh f (n - sn) sn) = (0 : Int32))) ?_
                show Steps p.tables e below (T114.setTop (mkF m 197 #[.val (.long jw), .second, .val (.int p2), .val (.int p3), .val (.ref b52), .val (.int (Int32.ofNat sn)), .val (.int (Int32.ofNat n)), .val (.int (1 : Int32)), .val (.int (0 : Int32))] [])) _
                refine XS.iconst X114.here hx rfl (hb hby at_197) ?_
                show Steps p.tables e below (T114.setTop (mkF m 198 #[.val (.long jw), .second, .val (.int p2), .val (.int p3), .val (.ref b52), .val (.int (Int32.ofNat sn)), .val (.int (Int32.ofNat n)), .val (.int (1 : Int32)), .val (.int (0 : Int32))] [(.int (1 : Int32))])) _
                refine XS.goto X114.here hx rfl (pc0 := 198) (pc' := 202) rfl (hb hby at_198) (by decide) (by decide) ?_
                show Steps p.tables e below (T114.setTop (mkF m 202 #[.val (.long jw), .second, .val (.int p2), .val (.int p3), .val (.ref b52), .val (.int (Int32.ofNat sn)), .val (.int (Int32.ofNat n)), .val (.int (1 : Int32)), .val (.int (0 : Int32))] [(.int (1 : Int32))])) _
                exact k)
            obtain ⟨fs, hr, hrun, hended, hW, hsame⟩ := X114.leave (v := some (.int (1 : Int32))) (fun h => by rw [Bd.returns] at h; cases h)
            refine ⟨_, _, q116 _ ?_, hrun, hended, _, _, rfl, ?_, ⟨_, rfl⟩, hW, hsame.mono (by decide) (by decide)⟩
            · show Steps p.tables e below (T114.setTop (mkF m 202 #[.val (.long jw), .second, .val (.int p2), .val (.int p3), .val (.ref b52), .val (.int (Int32.ofNat sn)), .val (.int (Int32.ofNat n)), .val (.int (1 : Int32)), .val (.int (0 : Int32))] [(.int (1 : Int32))])) _
              exact retN X114 hx (t := .boolean) Bd.returns (by simp) (hb hby at_202) hr
            · show QL n0 _ T114.heap _
              exact ⟨rfl, N114⟩
        · skip
          have u_3 : sn ≤ 3 ∧ 3 < n ∧ own_dot (f 3) := (own_stop_iff (j := 3) hs hn (by decide) (U 3)).2 t_3
          have q117 : ∀ t, Steps p.tables e below (T97.setTop (mkF m 189 #[.val (.long jw), .second, .val (.int p2), .val (.int p3), .val (.ref b52), .val (.int (Int32.ofNat sn)), .val (.int (Int32.ofNat n)), .val (.int (1 : Int32)), .val (.int (0 : Int32))] [(.int (Int32.ofNat n)), (.int (Int32.ofNat sn)), (.ref b52)])) t → Steps p.tables e below (s₁.setTop (entryFrame m #[(.long jw), (.int p2), (.int p3)] maxLocals)) t := fun t k => q98 t (by
              show Steps p.tables e below (T97.setTop (mkF m 135 #[.val (.long jw), .second, .val (.int p2), .val (.int p3), .val (.ref b52), .val (.int (Int32.ofNat sn)), .val (.int (Int32.ofNat n)), .unset, .unset] [(.int (own_stop (3 : Int32) (Int32.ofNat sn) (Int32.ofNat n) (f 3)))])) _
              refine XS.ifYes X97.here hx rfl (pc0 := 135) (pc' := 164) rfl (hb hby at_135) rfl (XT.i0_ne_t (t_3 : ¬ ((own_stop (3 : Int32) (Int32.ofNat sn) (Int32.ofNat n) (f 3)) = (0 : Int32)))) (by decide) (by decide) ?_
              show Steps p.tables e below (T97.setTop (mkF m 164 #[.val (.long jw), .second, .val (.int p2), .val (.int p3), .val (.ref b52), .val (.int (Int32.ofNat sn)), .val (.int (Int32.ofNat n)), .unset, .unset] [])) _
              refine XS.iconst X97.here hx rfl (hb hby at_164) ?_
              show Steps p.tables e below (T97.setTop (mkF m 165 #[.val (.long jw), .second, .val (.int p2), .val (.int p3), .val (.ref b52), .val (.int (Int32.ofNat sn)), .val (.int (Int32.ofNat n)), .unset, .unset] [(.int (1 : Int32))])) _
              refine XS.goto X97.here hx rfl (pc0 := 165) (pc' := 169) rfl (hb hby at_165) (by decide) (by decide) ?_
              show Steps p.tables e below (T97.setTop (mkF m 169 #[.val (.long jw), .second, .val (.int p2), .val (.int p3), .val (.ref b52), .val (.int (Int32.ofNat sn)), .val (.int (Int32.ofNat n)), .unset, .unset] [(.int (1 : Int32))])) _
              refine XS.istore X97.here hx rfl (hb hby at_169) rfl (l' := #[.val (.long jw), .second, .val (.int p2), .val (.int p3), .val (.ref b52), .val (.int (Int32.ofNat sn)), .val (.int (Int32.ofNat n)), .val (.int (1 : Int32)), .unset]) rfl ?_
              show Steps p.tables e below (T97.setTop (mkF m 171 #[.val (.long jw), .second, .val (.int p2), .val (.int p3), .val (.ref b52), .val (.int (Int32.ofNat sn)), .val (.int (Int32.ofNat n)), .val (.int (1 : Int32)), .unset] [])) _
              refine XS.iload X97.here hx rfl (hb hby at_171) rfl ?_
              show Steps p.tables e below (T97.setTop (mkF m 173 #[.val (.long jw), .second, .val (.int p2), .val (.int p3), .val (.ref b52), .val (.int (Int32.ofNat sn)), .val (.int (Int32.ofNat n)), .val (.int (1 : Int32)), .unset] [(.int (1 : Int32))])) _
              refine XS.ifYes X97.here hx rfl (pc0 := 173) (pc' := 180) rfl (hb hby at_173) rfl (XT.i0_ne_t (by decide : ¬ ((1 : Int32) = (0 : Int32)))) (by decide) (by decide) ?_
              show Steps p.tables e below (T97.setTop (mkF m 180 #[.val (.long jw), .second, .val (.int p2), .val (.int p3), .val (.ref b52), .val (.int (Int32.ofNat sn)), .val (.int (Int32.ofNat n)), .val (.int (1 : Int32)), .unset] [])) _
              refine XS.iconst X97.here hx rfl (hb hby at_180) ?_
              show Steps p.tables e below (T97.setTop (mkF m 181 #[.val (.long jw), .second, .val (.int p2), .val (.int p3), .val (.ref b52), .val (.int (Int32.ofNat sn)), .val (.int (Int32.ofNat n)), .val (.int (1 : Int32)), .unset] [(.int (0 : Int32))])) _
              refine XS.istore X97.here hx rfl (hb hby at_181) rfl (l' := #[.val (.long jw), .second, .val (.int p2), .val (.int p3), .val (.ref b52), .val (.int (Int32.ofNat sn)), .val (.int (Int32.ofNat n)), .val (.int (1 : Int32)), .val (.int (0 : Int32))]) rfl ?_
              show Steps p.tables e below (T97.setTop (mkF m 183 #[.val (.long jw), .second, .val (.int p2), .val (.int p3), .val (.ref b52), .val (.int (Int32.ofNat sn)), .val (.int (Int32.ofNat n)), .val (.int (1 : Int32)), .val (.int (0 : Int32))] [])) _
              refine XS.aload X97.here hx rfl (hb hby at_183) rfl rfl ?_
              show Steps p.tables e below (T97.setTop (mkF m 185 #[.val (.long jw), .second, .val (.int p2), .val (.int p3), .val (.ref b52), .val (.int (Int32.ofNat sn)), .val (.int (Int32.ofNat n)), .val (.int (1 : Int32)), .val (.int (0 : Int32))] [(.ref b52)])) _
              refine XS.iload X97.here hx rfl (hb hby at_185) rfl ?_
              show Steps p.tables e below (T97.setTop (mkF m 187 #[.val (.long jw), .second, .val (.int p2), .val (.int p3), .val (.ref b52), .val (.int (Int32.ofNat sn)), .val (.int (Int32.ofNat n)), .val (.int (1 : Int32)), .val (.int (0 : Int32))] [(.int (Int32.ofNat sn)), (.ref b52)])) _
              refine XS.iload X97.here hx rfl (hb hby at_187) rfl ?_
              show Steps p.tables e below (T97.setTop (mkF m 189 #[.val (.long jw), .second, .val (.int p2), .val (.int p3), .val (.ref b52), .val (.int (Int32.ofNat sn)), .val (.int (Int32.ofNat n)), .val (.int (1 : Int32)), .val (.int (0 : Int32))] [(.int (Int32.ofNat n)), (.int (Int32.ofNat sn)), (.ref b52)])) _
              exact k)
          obtain ⟨_, _, ⟨T118, L118, kk118, nn118⟩, -, X118, ⟨Lc118, hQ118, l118, y118, z118⟩, st118⟩ := Jvm.LawKit.callS X97 hx (y := (⟨"com/example/lune12/lune12/document/JsonSyntax", "isWhole", "([BII)Z"⟩ : MethodName)) hown (mvT hZ (hw _ (List.mem_of_getElem? (i := 8) rfl))) (mvT hZ (hw _ (List.mem_of_getElem? (i := 9) rfl))) (mvT hZ (hw _ (List.mem_of_getElem? (i := 10) rfl))) (mvT hZ (hw _ (List.mem_of_getElem? (i := 11) rfl))) (by decide) (backOf (W := 0) (rm3 l Z a0 hw [] b52 sn n hs hn f cl h82 n0 Z82 Ar S H) hZ (hw _ (List.mem_of_getElem? (i := 11) rfl)) (hw _ (List.mem_of_getElem? (i := 10) rfl)) (by decide) (by decide)) (g := (mkF m 189 #[.val (.long jw), .second, .val (.int p2), .val (.int p3), .val (.ref b52), .val (.int (Int32.ofNat sn)), .val (.int (Int32.ofNat n)), .val (.int (1 : Int32)), .val (.int (0 : Int32))] [(.int (Int32.ofNat n)), (.int (Int32.ofNat sn)), (.ref b52)])) rfl (by rw [hml]; rfl) (argsL := [(.ref b52), (.int (Int32.ofNat sn)), (.int (Int32.ofNat n))]) (rest := []) (lenOf pd___BII_Z rfl) rfl (by show 2 * 0 + _ ≤ _; exact Nat.le_of_eq rfl) (hb hby at_189) (fun _ _ => ⟨rfl, e97, (by decide : 1 + 0 ≤ _), (by decide : 6 + 0 ≤ _)⟩)
          dsimp only [Pt.U, Pt.locs, Pt.cells, Pt.slots] at X118 l118 y118 z118 st118 hQ118
          subst l118 y118 z118
          obtain ⟨rfl, Nq118, e118⟩ := hQ118
          have N118 := Fr.app N97 Nq118
          have q119 : ∀ t, Steps p.tables e below (T118.setTop (mkF m 192 #[.val (.long jw), .second, .val (.int p2), .val (.int p3), .val (.ref b52), .val (.int (Int32.ofNat sn)), .val (.int (Int32.ofNat n)), .val (.int (1 : Int32)), .val (.int (0 : Int32))] [(.int (own_wh f (n - sn) sn))])) t → Steps p.tables e below (s₁.setTop (entryFrame m #[(.long jw), (.int p2), (.int p3)] maxLocals)) t := fun t k => q117 t (st118 t k)
          have q120 : ∀ t, Steps p.tables e below (T118.setTop (mkF m 202 #[.val (.long jw), .second, .val (.int p2), .val (.int p3), .val (.ref b52), .val (.int (Int32.ofNat sn)), .val (.int (Int32.ofNat n)), .val (.int (1 : Int32)), .val (.int (0 : Int32))] [(.int (1 : Int32))])) t → Steps p.tables e below (s₁.setTop (entryFrame m #[(.long jw), (.int p2), (.int p3)] maxLocals)) t := fun t k => q119 t (by
              show Steps p.tables e below (T118.setTop (mkF m 192 #[.val (.long jw), .second, .val (.int p2), .val (.int p3), .val (.ref b52), .val (.int (Int32.ofNat sn)), .val (.int (Int32.ofNat n)), .val (.int (1 : Int32)), .val (.int (0 : Int32))] [(.int (own_wh f (n - sn) sn))])) _
              refine XS.iload X118.here hx rfl (hb hby at_192) rfl ?_
              show Steps p.tables e below (T118.setTop (mkF m 194 #[.val (.long jw), .second, .val (.int p2), .val (.int p3), .val (.ref b52), .val (.int (Int32.ofNat sn)), .val (.int (Int32.ofNat n)), .val (.int (1 : Int32)), .val (.int (0 : Int32))] [(.int (0 : Int32)), (.int (own_wh f (n - sn) sn))])) _
              refine XS.icmpNo X118.here hx rfl (hb hby at_194) rfl (XT.ii_ne_f (own_yes u_3 : (own_wh f (n - sn) sn) = (0 : Int32))) ?_
              show Steps p.tables e below (T118.setTop (mkF m 197 #[.val (.long jw), .second, .val (.int p2), .val (.int p3), .val (.ref b52), .val (.int (Int32.ofNat sn)), .val (.int (Int32.ofNat n)), .val (.int (1 : Int32)), .val (.int (0 : Int32))] [])) _
              refine XS.iconst X118.here hx rfl (hb hby at_197) ?_
              show Steps p.tables e below (T118.setTop (mkF m 198 #[.val (.long jw), .second, .val (.int p2), .val (.int p3), .val (.ref b52), .val (.int (Int32.ofNat sn)), .val (.int (Int32.ofNat n)), .val (.int (1 : Int32)), .val (.int (0 : Int32))] [(.int (1 : Int32))])) _
              refine XS.goto X118.here hx rfl (pc0 := 198) (pc' := 202) rfl (hb hby at_198) (by decide) (by decide) ?_
              show Steps p.tables e below (T118.setTop (mkF m 202 #[.val (.long jw), .second, .val (.int p2), .val (.int p3), .val (.ref b52), .val (.int (Int32.ofNat sn)), .val (.int (Int32.ofNat n)), .val (.int (1 : Int32)), .val (.int (0 : Int32))] [(.int (1 : Int32))])) _
              exact k)
          obtain ⟨fs, hr, hrun, hended, hW, hsame⟩ := X118.leave (v := some (.int (1 : Int32))) (fun h => by rw [Bd.returns] at h; cases h)
          refine ⟨_, _, q120 _ ?_, hrun, hended, _, _, rfl, ?_, ⟨_, rfl⟩, hW, hsame.mono (by decide) (by decide)⟩
          · show Steps p.tables e below (T118.setTop (mkF m 202 #[.val (.long jw), .second, .val (.int p2), .val (.int p3), .val (.ref b52), .val (.int (Int32.ofNat sn)), .val (.int (Int32.ofNat n)), .val (.int (1 : Int32)), .val (.int (0 : Int32))] [(.int (1 : Int32))])) _
            exact retN X118 hx (t := .boolean) Bd.returns (by simp) (hb hby at_202) hr
          · show QL n0 _ T118.heap _
            exact ⟨rfl, N118⟩
      · skip
        have u_2 : sn ≤ 2 ∧ 2 < n ∧ own_dot (f 2) := (own_stop_iff (j := 2) hs hn (by decide) (U 2)).2 t_2
        have q121 : ∀ t, Steps p.tables e below (T94.setTop (mkF m 189 #[.val (.long jw), .second, .val (.int p2), .val (.int p3), .val (.ref b52), .val (.int (Int32.ofNat sn)), .val (.int (Int32.ofNat n)), .val (.int (1 : Int32)), .val (.int (0 : Int32))] [(.int (Int32.ofNat n)), (.int (Int32.ofNat sn)), (.ref b52)])) t → Steps p.tables e below (s₁.setTop (entryFrame m #[(.long jw), (.int p2), (.int p3)] maxLocals)) t := fun t k => q95 t (by
            show Steps p.tables e below (T94.setTop (mkF m 122 #[.val (.long jw), .second, .val (.int p2), .val (.int p3), .val (.ref b52), .val (.int (Int32.ofNat sn)), .val (.int (Int32.ofNat n)), .unset, .unset] [(.int (own_stop (2 : Int32) (Int32.ofNat sn) (Int32.ofNat n) (f 2)))])) _
            refine XS.ifYes X94.here hx rfl (pc0 := 122) (pc' := 164) rfl (hb hby at_122) rfl (XT.i0_ne_t (t_2 : ¬ ((own_stop (2 : Int32) (Int32.ofNat sn) (Int32.ofNat n) (f 2)) = (0 : Int32)))) (by decide) (by decide) ?_
            show Steps p.tables e below (T94.setTop (mkF m 164 #[.val (.long jw), .second, .val (.int p2), .val (.int p3), .val (.ref b52), .val (.int (Int32.ofNat sn)), .val (.int (Int32.ofNat n)), .unset, .unset] [])) _
            refine XS.iconst X94.here hx rfl (hb hby at_164) ?_
            show Steps p.tables e below (T94.setTop (mkF m 165 #[.val (.long jw), .second, .val (.int p2), .val (.int p3), .val (.ref b52), .val (.int (Int32.ofNat sn)), .val (.int (Int32.ofNat n)), .unset, .unset] [(.int (1 : Int32))])) _
            refine XS.goto X94.here hx rfl (pc0 := 165) (pc' := 169) rfl (hb hby at_165) (by decide) (by decide) ?_
            show Steps p.tables e below (T94.setTop (mkF m 169 #[.val (.long jw), .second, .val (.int p2), .val (.int p3), .val (.ref b52), .val (.int (Int32.ofNat sn)), .val (.int (Int32.ofNat n)), .unset, .unset] [(.int (1 : Int32))])) _
            refine XS.istore X94.here hx rfl (hb hby at_169) rfl (l' := #[.val (.long jw), .second, .val (.int p2), .val (.int p3), .val (.ref b52), .val (.int (Int32.ofNat sn)), .val (.int (Int32.ofNat n)), .val (.int (1 : Int32)), .unset]) rfl ?_
            show Steps p.tables e below (T94.setTop (mkF m 171 #[.val (.long jw), .second, .val (.int p2), .val (.int p3), .val (.ref b52), .val (.int (Int32.ofNat sn)), .val (.int (Int32.ofNat n)), .val (.int (1 : Int32)), .unset] [])) _
            refine XS.iload X94.here hx rfl (hb hby at_171) rfl ?_
            show Steps p.tables e below (T94.setTop (mkF m 173 #[.val (.long jw), .second, .val (.int p2), .val (.int p3), .val (.ref b52), .val (.int (Int32.ofNat sn)), .val (.int (Int32.ofNat n)), .val (.int (1 : Int32)), .unset] [(.int (1 : Int32))])) _
            refine XS.ifYes X94.here hx rfl (pc0 := 173) (pc' := 180) rfl (hb hby at_173) rfl (XT.i0_ne_t (by decide : ¬ ((1 : Int32) = (0 : Int32)))) (by decide) (by decide) ?_
            show Steps p.tables e below (T94.setTop (mkF m 180 #[.val (.long jw), .second, .val (.int p2), .val (.int p3), .val (.ref b52), .val (.int (Int32.ofNat sn)), .val (.int (Int32.ofNat n)), .val (.int (1 : Int32)), .unset] [])) _
            refine XS.iconst X94.here hx rfl (hb hby at_180) ?_
            show Steps p.tables e below (T94.setTop (mkF m 181 #[.val (.long jw), .second, .val (.int p2), .val (.int p3), .val (.ref b52), .val (.int (Int32.ofNat sn)), .val (.int (Int32.ofNat n)), .val (.int (1 : Int32)), .unset] [(.int (0 : Int32))])) _
            refine XS.istore X94.here hx rfl (hb hby at_181) rfl (l' := #[.val (.long jw), .second, .val (.int p2), .val (.int p3), .val (.ref b52), .val (.int (Int32.ofNat sn)), .val (.int (Int32.ofNat n)), .val (.int (1 : Int32)), .val (.int (0 : Int32))]) rfl ?_
            show Steps p.tables e below (T94.setTop (mkF m 183 #[.val (.long jw), .second, .val (.int p2), .val (.int p3), .val (.ref b52), .val (.int (Int32.ofNat sn)), .val (.int (Int32.ofNat n)), .val (.int (1 : Int32)), .val (.int (0 : Int32))] [])) _
            refine XS.aload X94.here hx rfl (hb hby at_183) rfl rfl ?_
            show Steps p.tables e below (T94.setTop (mkF m 185 #[.val (.long jw), .second, .val (.int p2), .val (.int p3), .val (.ref b52), .val (.int (Int32.ofNat sn)), .val (.int (Int32.ofNat n)), .val (.int (1 : Int32)), .val (.int (0 : Int32))] [(.ref b52)])) _
            refine XS.iload X94.here hx rfl (hb hby at_185) rfl ?_
            show Steps p.tables e below (T94.setTop (mkF m 187 #[.val (.long jw), .second, .val (.int p2), .val (.int p3), .val (.ref b52), .val (.int (Int32.ofNat sn)), .val (.int (Int32.ofNat n)), .val (.int (1 : Int32)), .val (.int (0 : Int32))] [(.int (Int32.ofNat sn)), (.ref b52)])) _
            refine XS.iload X94.here hx rfl (hb hby at_187) rfl ?_
            show Steps p.tables e below (T94.setTop (mkF m 189 #[.val (.long jw), .second, .val (.int p2), .val (.int p3), .val (.ref b52), .val (.int (Int32.ofNat sn)), .val (.int (Int32.ofNat n)), .val (.int (1 : Int32)), .val (.int (0 : Int32))] [(.int (Int32.ofNat n)), (.int (Int32.ofNat sn)), (.ref b52)])) _
            exact k)
        obtain ⟨_, _, ⟨T122, L122, kk122, nn122⟩, -, X122, ⟨Lc122, hQ122, l122, y122, z122⟩, st122⟩ := Jvm.LawKit.callS X94 hx (y := (⟨"com/example/lune12/lune12/document/JsonSyntax", "isWhole", "([BII)Z"⟩ : MethodName)) hown (mvT hZ (hw _ (List.mem_of_getElem? (i := 8) rfl))) (mvT hZ (hw _ (List.mem_of_getElem? (i := 9) rfl))) (mvT hZ (hw _ (List.mem_of_getElem? (i := 10) rfl))) (mvT hZ (hw _ (List.mem_of_getElem? (i := 11) rfl))) (by decide) (backOf (W := 0) (rm3 l Z a0 hw [] b52 sn n hs hn f cl h82 n0 Z82 Ar S H) hZ (hw _ (List.mem_of_getElem? (i := 11) rfl)) (hw _ (List.mem_of_getElem? (i := 10) rfl)) (by decide) (by decide)) (g := (mkF m 189 #[.val (.long jw), .second, .val (.int p2), .val (.int p3), .val (.ref b52), .val (.int (Int32.ofNat sn)), .val (.int (Int32.ofNat n)), .val (.int (1 : Int32)), .val (.int (0 : Int32))] [(.int (Int32.ofNat n)), (.int (Int32.ofNat sn)), (.ref b52)])) rfl (by rw [hml]; rfl) (argsL := [(.ref b52), (.int (Int32.ofNat sn)), (.int (Int32.ofNat n))]) (rest := []) (lenOf pd___BII_Z rfl) rfl (by show 2 * 0 + _ ≤ _; exact Nat.le_of_eq rfl) (hb hby at_189) (fun _ _ => ⟨rfl, e94, (by decide : 1 + 0 ≤ _), (by decide : 6 + 0 ≤ _)⟩)
        dsimp only [Pt.U, Pt.locs, Pt.cells, Pt.slots] at X122 l122 y122 z122 st122 hQ122
        subst l122 y122 z122
        obtain ⟨rfl, Nq122, e122⟩ := hQ122
        have N122 := Fr.app N94 Nq122
        have q123 : ∀ t, Steps p.tables e below (T122.setTop (mkF m 192 #[.val (.long jw), .second, .val (.int p2), .val (.int p3), .val (.ref b52), .val (.int (Int32.ofNat sn)), .val (.int (Int32.ofNat n)), .val (.int (1 : Int32)), .val (.int (0 : Int32))] [(.int (own_wh f (n - sn) sn))])) t → Steps p.tables e below (s₁.setTop (entryFrame m #[(.long jw), (.int p2), (.int p3)] maxLocals)) t := fun t k => q121 t (st122 t k)
        have q124 : ∀ t, Steps p.tables e below (T122.setTop (mkF m 202 #[.val (.long jw), .second, .val (.int p2), .val (.int p3), .val (.ref b52), .val (.int (Int32.ofNat sn)), .val (.int (Int32.ofNat n)), .val (.int (1 : Int32)), .val (.int (0 : Int32))] [(.int (1 : Int32))])) t → Steps p.tables e below (s₁.setTop (entryFrame m #[(.long jw), (.int p2), (.int p3)] maxLocals)) t := fun t k => q123 t (by
            show Steps p.tables e below (T122.setTop (mkF m 192 #[.val (.long jw), .second, .val (.int p2), .val (.int p3), .val (.ref b52), .val (.int (Int32.ofNat sn)), .val (.int (Int32.ofNat n)), .val (.int (1 : Int32)), .val (.int (0 : Int32))] [(.int (own_wh f (n - sn) sn))])) _
            refine XS.iload X122.here hx rfl (hb hby at_192) rfl ?_
            show Steps p.tables e below (T122.setTop (mkF m 194 #[.val (.long jw), .second, .val (.int p2), .val (.int p3), .val (.ref b52), .val (.int (Int32.ofNat sn)), .val (.int (Int32.ofNat n)), .val (.int (1 : Int32)), .val (.int (0 : Int32))] [(.int (0 : Int32)), (.int (own_wh f (n - sn) sn))])) _
            refine XS.icmpNo X122.here hx rfl (hb hby at_194) rfl (XT.ii_ne_f (own_yes u_2 : (own_wh f (n - sn) sn) = (0 : Int32))) ?_
            show Steps p.tables e below (T122.setTop (mkF m 197 #[.val (.long jw), .second, .val (.int p2), .val (.int p3), .val (.ref b52), .val (.int (Int32.ofNat sn)), .val (.int (Int32.ofNat n)), .val (.int (1 : Int32)), .val (.int (0 : Int32))] [])) _
            refine XS.iconst X122.here hx rfl (hb hby at_197) ?_
            show Steps p.tables e below (T122.setTop (mkF m 198 #[.val (.long jw), .second, .val (.int p2), .val (.int p3), .val (.ref b52), .val (.int (Int32.ofNat sn)), .val (.int (Int32.ofNat n)), .val (.int (1 : Int32)), .val (.int (0 : Int32))] [(.int (1 : Int32))])) _
            refine XS.goto X122.here hx rfl (pc0 := 198) (pc' := 202) rfl (hb hby at_198) (by decide) (by decide) ?_
            show Steps p.tables e below (T122.setTop (mkF m 202 #[.val (.long jw), .second, .val (.int p2), .val (.int p3), .val (.ref b52), .val (.int (Int32.ofNat sn)), .val (.int (Int32.ofNat n)), .val (.int (1 : Int32)), .val (.int (0 : Int32))] [(.int (1 : Int32))])) _
            exact k)
        obtain ⟨fs, hr, hrun, hended, hW, hsame⟩ := X122.leave (v := some (.int (1 : Int32))) (fun h => by rw [Bd.returns] at h; cases h)
        refine ⟨_, _, q124 _ ?_, hrun, hended, _, _, rfl, ?_, ⟨_, rfl⟩, hW, hsame.mono (by decide) (by decide)⟩
        · show Steps p.tables e below (T122.setTop (mkF m 202 #[.val (.long jw), .second, .val (.int p2), .val (.int p3), .val (.ref b52), .val (.int (Int32.ofNat sn)), .val (.int (Int32.ofNat n)), .val (.int (1 : Int32)), .val (.int (0 : Int32))] [(.int (1 : Int32))])) _
          exact retN X122 hx (t := .boolean) Bd.returns (by simp) (hb hby at_202) hr
        · show QL n0 _ T122.heap _
          exact ⟨rfl, N122⟩
    · skip
      have u_1 : sn ≤ 1 ∧ 1 < n ∧ own_dot (f 1) := (own_stop_iff (j := 1) hs hn (by decide) (U 1)).2 t_1
      have q125 : ∀ t, Steps p.tables e below (T91.setTop (mkF m 189 #[.val (.long jw), .second, .val (.int p2), .val (.int p3), .val (.ref b52), .val (.int (Int32.ofNat sn)), .val (.int (Int32.ofNat n)), .val (.int (1 : Int32)), .val (.int (0 : Int32))] [(.int (Int32.ofNat n)), (.int (Int32.ofNat sn)), (.ref b52)])) t → Steps p.tables e below (s₁.setTop (entryFrame m #[(.long jw), (.int p2), (.int p3)] maxLocals)) t := fun t k => q92 t (by
          show Steps p.tables e below (T91.setTop (mkF m 109 #[.val (.long jw), .second, .val (.int p2), .val (.int p3), .val (.ref b52), .val (.int (Int32.ofNat sn)), .val (.int (Int32.ofNat n)), .unset, .unset] [(.int (own_stop (1 : Int32) (Int32.ofNat sn) (Int32.ofNat n) (f 1)))])) _
          refine XS.ifYes X91.here hx rfl (pc0 := 109) (pc' := 164) rfl (hb hby at_109) rfl (XT.i0_ne_t (t_1 : ¬ ((own_stop (1 : Int32) (Int32.ofNat sn) (Int32.ofNat n) (f 1)) = (0 : Int32)))) (by decide) (by decide) ?_
          show Steps p.tables e below (T91.setTop (mkF m 164 #[.val (.long jw), .second, .val (.int p2), .val (.int p3), .val (.ref b52), .val (.int (Int32.ofNat sn)), .val (.int (Int32.ofNat n)), .unset, .unset] [])) _
          refine XS.iconst X91.here hx rfl (hb hby at_164) ?_
          show Steps p.tables e below (T91.setTop (mkF m 165 #[.val (.long jw), .second, .val (.int p2), .val (.int p3), .val (.ref b52), .val (.int (Int32.ofNat sn)), .val (.int (Int32.ofNat n)), .unset, .unset] [(.int (1 : Int32))])) _
          refine XS.goto X91.here hx rfl (pc0 := 165) (pc' := 169) rfl (hb hby at_165) (by decide) (by decide) ?_
          show Steps p.tables e below (T91.setTop (mkF m 169 #[.val (.long jw), .second, .val (.int p2), .val (.int p3), .val (.ref b52), .val (.int (Int32.ofNat sn)), .val (.int (Int32.ofNat n)), .unset, .unset] [(.int (1 : Int32))])) _
          refine XS.istore X91.here hx rfl (hb hby at_169) rfl (l' := #[.val (.long jw), .second, .val (.int p2), .val (.int p3), .val (.ref b52), .val (.int (Int32.ofNat sn)), .val (.int (Int32.ofNat n)), .val (.int (1 : Int32)), .unset]) rfl ?_
          show Steps p.tables e below (T91.setTop (mkF m 171 #[.val (.long jw), .second, .val (.int p2), .val (.int p3), .val (.ref b52), .val (.int (Int32.ofNat sn)), .val (.int (Int32.ofNat n)), .val (.int (1 : Int32)), .unset] [])) _
          refine XS.iload X91.here hx rfl (hb hby at_171) rfl ?_
          show Steps p.tables e below (T91.setTop (mkF m 173 #[.val (.long jw), .second, .val (.int p2), .val (.int p3), .val (.ref b52), .val (.int (Int32.ofNat sn)), .val (.int (Int32.ofNat n)), .val (.int (1 : Int32)), .unset] [(.int (1 : Int32))])) _
          refine XS.ifYes X91.here hx rfl (pc0 := 173) (pc' := 180) rfl (hb hby at_173) rfl (XT.i0_ne_t (by decide : ¬ ((1 : Int32) = (0 : Int32)))) (by decide) (by decide) ?_
          show Steps p.tables e below (T91.setTop (mkF m 180 #[.val (.long jw), .second, .val (.int p2), .val (.int p3), .val (.ref b52), .val (.int (Int32.ofNat sn)), .val (.int (Int32.ofNat n)), .val (.int (1 : Int32)), .unset] [])) _
          refine XS.iconst X91.here hx rfl (hb hby at_180) ?_
          show Steps p.tables e below (T91.setTop (mkF m 181 #[.val (.long jw), .second, .val (.int p2), .val (.int p3), .val (.ref b52), .val (.int (Int32.ofNat sn)), .val (.int (Int32.ofNat n)), .val (.int (1 : Int32)), .unset] [(.int (0 : Int32))])) _
          refine XS.istore X91.here hx rfl (hb hby at_181) rfl (l' := #[.val (.long jw), .second, .val (.int p2), .val (.int p3), .val (.ref b52), .val (.int (Int32.ofNat sn)), .val (.int (Int32.ofNat n)), .val (.int (1 : Int32)), .val (.int (0 : Int32))]) rfl ?_
          show Steps p.tables e below (T91.setTop (mkF m 183 #[.val (.long jw), .second, .val (.int p2), .val (.int p3), .val (.ref b52), .val (.int (Int32.ofNat sn)), .val (.int (Int32.ofNat n)), .val (.int (1 : Int32)), .val (.int (0 : Int32))] [])) _
          refine XS.aload X91.here hx rfl (hb hby at_183) rfl rfl ?_
          show Steps p.tables e below (T91.setTop (mkF m 185 #[.val (.long jw), .second, .val (.int p2), .val (.int p3), .val (.ref b52), .val (.int (Int32.ofNat sn)), .val (.int (Int32.ofNat n)), .val (.int (1 : Int32)), .val (.int (0 : Int32))] [(.ref b52)])) _
          refine XS.iload X91.here hx rfl (hb hby at_185) rfl ?_
          show Steps p.tables e below (T91.setTop (mkF m 187 #[.val (.long jw), .second, .val (.int p2), .val (.int p3), .val (.ref b52), .val (.int (Int32.ofNat sn)), .val (.int (Int32.ofNat n)), .val (.int (1 : Int32)), .val (.int (0 : Int32))] [(.int (Int32.ofNat sn)), (.ref b52)])) _
          refine XS.iload X91.here hx rfl (hb hby at_187) rfl ?_
          show Steps p.tables e below (T91.setTop (mkF m 189 #[.val (.long jw), .second, .val (.int p2), .val (.int p3), .val (.ref b52), .val (.int (Int32.ofNat sn)), .val (.int (Int32.ofNat n)), .val (.int (1 : Int32)), .val (.int (0 : Int32))] [(.int (Int32.ofNat n)), (.int (Int32.ofNat sn)), (.ref b52)])) _
          exact k)
      obtain ⟨_, _, ⟨T126, L126, kk126, nn126⟩, -, X126, ⟨Lc126, hQ126, l126, y126, z126⟩, st126⟩ := Jvm.LawKit.callS X91 hx (y := (⟨"com/example/lune12/lune12/document/JsonSyntax", "isWhole", "([BII)Z"⟩ : MethodName)) hown (mvT hZ (hw _ (List.mem_of_getElem? (i := 8) rfl))) (mvT hZ (hw _ (List.mem_of_getElem? (i := 9) rfl))) (mvT hZ (hw _ (List.mem_of_getElem? (i := 10) rfl))) (mvT hZ (hw _ (List.mem_of_getElem? (i := 11) rfl))) (by decide) (backOf (W := 0) (rm3 l Z a0 hw [] b52 sn n hs hn f cl h82 n0 Z82 Ar S H) hZ (hw _ (List.mem_of_getElem? (i := 11) rfl)) (hw _ (List.mem_of_getElem? (i := 10) rfl)) (by decide) (by decide)) (g := (mkF m 189 #[.val (.long jw), .second, .val (.int p2), .val (.int p3), .val (.ref b52), .val (.int (Int32.ofNat sn)), .val (.int (Int32.ofNat n)), .val (.int (1 : Int32)), .val (.int (0 : Int32))] [(.int (Int32.ofNat n)), (.int (Int32.ofNat sn)), (.ref b52)])) rfl (by rw [hml]; rfl) (argsL := [(.ref b52), (.int (Int32.ofNat sn)), (.int (Int32.ofNat n))]) (rest := []) (lenOf pd___BII_Z rfl) rfl (by show 2 * 0 + _ ≤ _; exact Nat.le_of_eq rfl) (hb hby at_189) (fun _ _ => ⟨rfl, e91, (by decide : 1 + 0 ≤ _), (by decide : 6 + 0 ≤ _)⟩)
      dsimp only [Pt.U, Pt.locs, Pt.cells, Pt.slots] at X126 l126 y126 z126 st126 hQ126
      subst l126 y126 z126
      obtain ⟨rfl, Nq126, e126⟩ := hQ126
      have N126 := Fr.app N91 Nq126
      have q127 : ∀ t, Steps p.tables e below (T126.setTop (mkF m 192 #[.val (.long jw), .second, .val (.int p2), .val (.int p3), .val (.ref b52), .val (.int (Int32.ofNat sn)), .val (.int (Int32.ofNat n)), .val (.int (1 : Int32)), .val (.int (0 : Int32))] [(.int (own_wh f (n - sn) sn))])) t → Steps p.tables e below (s₁.setTop (entryFrame m #[(.long jw), (.int p2), (.int p3)] maxLocals)) t := fun t k => q125 t (st126 t k)
      have q128 : ∀ t, Steps p.tables e below (T126.setTop (mkF m 202 #[.val (.long jw), .second, .val (.int p2), .val (.int p3), .val (.ref b52), .val (.int (Int32.ofNat sn)), .val (.int (Int32.ofNat n)), .val (.int (1 : Int32)), .val (.int (0 : Int32))] [(.int (1 : Int32))])) t → Steps p.tables e below (s₁.setTop (entryFrame m #[(.long jw), (.int p2), (.int p3)] maxLocals)) t := fun t k => q127 t (by
          show Steps p.tables e below (T126.setTop (mkF m 192 #[.val (.long jw), .second, .val (.int p2), .val (.int p3), .val (.ref b52), .val (.int (Int32.ofNat sn)), .val (.int (Int32.ofNat n)), .val (.int (1 : Int32)), .val (.int (0 : Int32))] [(.int (own_wh f (n - sn) sn))])) _
          refine XS.iload X126.here hx rfl (hb hby at_192) rfl ?_
          show Steps p.tables e below (T126.setTop (mkF m 194 #[.val (.long jw), .second, .val (.int p2), .val (.int p3), .val (.ref b52), .val (.int (Int32.ofNat sn)), .val (.int (Int32.ofNat n)), .val (.int (1 : Int32)), .val (.int (0 : Int32))] [(.int (0 : Int32)), (.int (own_wh f (n - sn) sn))])) _
          refine XS.icmpNo X126.here hx rfl (hb hby at_194) rfl (XT.ii_ne_f (own_yes u_1 : (own_wh f (n - sn) sn) = (0 : Int32))) ?_
          show Steps p.tables e below (T126.setTop (mkF m 197 #[.val (.long jw), .second, .val (.int p2), .val (.int p3), .val (.ref b52), .val (.int (Int32.ofNat sn)), .val (.int (Int32.ofNat n)), .val (.int (1 : Int32)), .val (.int (0 : Int32))] [])) _
          refine XS.iconst X126.here hx rfl (hb hby at_197) ?_
          show Steps p.tables e below (T126.setTop (mkF m 198 #[.val (.long jw), .second, .val (.int p2), .val (.int p3), .val (.ref b52), .val (.int (Int32.ofNat sn)), .val (.int (Int32.ofNat n)), .val (.int (1 : Int32)), .val (.int (0 : Int32))] [(.int (1 : Int32))])) _
          refine XS.goto X126.here hx rfl (pc0 := 198) (pc' := 202) rfl (hb hby at_198) (by decide) (by decide) ?_
          show Steps p.tables e below (T126.setTop (mkF m 202 #[.val (.long jw), .second, .val (.int p2), .val (.int p3), .val (.ref b52), .val (.int (Int32.ofNat sn)), .val (.int (Int32.ofNat n)), .val (.int (1 : Int32)), .val (.int (0 : Int32))] [(.int (1 : Int32))])) _
          exact k)
      obtain ⟨fs, hr, hrun, hended, hW, hsame⟩ := X126.leave (v := some (.int (1 : Int32))) (fun h => by rw [Bd.returns] at h; cases h)
      refine ⟨_, _, q128 _ ?_, hrun, hended, _, _, rfl, ?_, ⟨_, rfl⟩, hW, hsame.mono (by decide) (by decide)⟩
      · show Steps p.tables e below (T126.setTop (mkF m 202 #[.val (.long jw), .second, .val (.int p2), .val (.int p3), .val (.ref b52), .val (.int (Int32.ofNat sn)), .val (.int (Int32.ofNat n)), .val (.int (1 : Int32)), .val (.int (0 : Int32))] [(.int (1 : Int32))])) _
        exact retN X126 hx (t := .boolean) Bd.returns (by simp) (hb hby at_202) hr
      · show QL n0 _ T126.heap _
        exact ⟨rfl, N126⟩
  · skip
    have u_0 : sn ≤ 0 ∧ 0 < n ∧ own_dot (f 0) := (own_stop_iff (j := 0) hs hn (by decide) (U 0)).2 t_0
    have q129 : ∀ t, Steps p.tables e below (T88.setTop (mkF m 189 #[.val (.long jw), .second, .val (.int p2), .val (.int p3), .val (.ref b52), .val (.int (Int32.ofNat sn)), .val (.int (Int32.ofNat n)), .val (.int (1 : Int32)), .val (.int (0 : Int32))] [(.int (Int32.ofNat n)), (.int (Int32.ofNat sn)), (.ref b52)])) t → Steps p.tables e below (s₁.setTop (entryFrame m #[(.long jw), (.int p2), (.int p3)] maxLocals)) t := fun t k => q89 t (by
        show Steps p.tables e below (T88.setTop (mkF m 96 #[.val (.long jw), .second, .val (.int p2), .val (.int p3), .val (.ref b52), .val (.int (Int32.ofNat sn)), .val (.int (Int32.ofNat n)), .unset, .unset] [(.int (own_stop (0 : Int32) (Int32.ofNat sn) (Int32.ofNat n) (f 0)))])) _
        refine XS.ifYes X88.here hx rfl (pc0 := 96) (pc' := 164) rfl (hb hby at_96) rfl (XT.i0_ne_t (t_0 : ¬ ((own_stop (0 : Int32) (Int32.ofNat sn) (Int32.ofNat n) (f 0)) = (0 : Int32)))) (by decide) (by decide) ?_
        show Steps p.tables e below (T88.setTop (mkF m 164 #[.val (.long jw), .second, .val (.int p2), .val (.int p3), .val (.ref b52), .val (.int (Int32.ofNat sn)), .val (.int (Int32.ofNat n)), .unset, .unset] [])) _
        refine XS.iconst X88.here hx rfl (hb hby at_164) ?_
        show Steps p.tables e below (T88.setTop (mkF m 165 #[.val (.long jw), .second, .val (.int p2), .val (.int p3), .val (.ref b52), .val (.int (Int32.ofNat sn)), .val (.int (Int32.ofNat n)), .unset, .unset] [(.int (1 : Int32))])) _
        refine XS.goto X88.here hx rfl (pc0 := 165) (pc' := 169) rfl (hb hby at_165) (by decide) (by decide) ?_
        show Steps p.tables e below (T88.setTop (mkF m 169 #[.val (.long jw), .second, .val (.int p2), .val (.int p3), .val (.ref b52), .val (.int (Int32.ofNat sn)), .val (.int (Int32.ofNat n)), .unset, .unset] [(.int (1 : Int32))])) _
        refine XS.istore X88.here hx rfl (hb hby at_169) rfl (l' := #[.val (.long jw), .second, .val (.int p2), .val (.int p3), .val (.ref b52), .val (.int (Int32.ofNat sn)), .val (.int (Int32.ofNat n)), .val (.int (1 : Int32)), .unset]) rfl ?_
        show Steps p.tables e below (T88.setTop (mkF m 171 #[.val (.long jw), .second, .val (.int p2), .val (.int p3), .val (.ref b52), .val (.int (Int32.ofNat sn)), .val (.int (Int32.ofNat n)), .val (.int (1 : Int32)), .unset] [])) _
        refine XS.iload X88.here hx rfl (hb hby at_171) rfl ?_
        show Steps p.tables e below (T88.setTop (mkF m 173 #[.val (.long jw), .second, .val (.int p2), .val (.int p3), .val (.ref b52), .val (.int (Int32.ofNat sn)), .val (.int (Int32.ofNat n)), .val (.int (1 : Int32)), .unset] [(.int (1 : Int32))])) _
        refine XS.ifYes X88.here hx rfl (pc0 := 173) (pc' := 180) rfl (hb hby at_173) rfl (XT.i0_ne_t (by decide : ¬ ((1 : Int32) = (0 : Int32)))) (by decide) (by decide) ?_
        show Steps p.tables e below (T88.setTop (mkF m 180 #[.val (.long jw), .second, .val (.int p2), .val (.int p3), .val (.ref b52), .val (.int (Int32.ofNat sn)), .val (.int (Int32.ofNat n)), .val (.int (1 : Int32)), .unset] [])) _
        refine XS.iconst X88.here hx rfl (hb hby at_180) ?_
        show Steps p.tables e below (T88.setTop (mkF m 181 #[.val (.long jw), .second, .val (.int p2), .val (.int p3), .val (.ref b52), .val (.int (Int32.ofNat sn)), .val (.int (Int32.ofNat n)), .val (.int (1 : Int32)), .unset] [(.int (0 : Int32))])) _
        refine XS.istore X88.here hx rfl (hb hby at_181) rfl (l' := #[.val (.long jw), .second, .val (.int p2), .val (.int p3), .val (.ref b52), .val (.int (Int32.ofNat sn)), .val (.int (Int32.ofNat n)), .val (.int (1 : Int32)), .val (.int (0 : Int32))]) rfl ?_
        show Steps p.tables e below (T88.setTop (mkF m 183 #[.val (.long jw), .second, .val (.int p2), .val (.int p3), .val (.ref b52), .val (.int (Int32.ofNat sn)), .val (.int (Int32.ofNat n)), .val (.int (1 : Int32)), .val (.int (0 : Int32))] [])) _
        refine XS.aload X88.here hx rfl (hb hby at_183) rfl rfl ?_
        show Steps p.tables e below (T88.setTop (mkF m 185 #[.val (.long jw), .second, .val (.int p2), .val (.int p3), .val (.ref b52), .val (.int (Int32.ofNat sn)), .val (.int (Int32.ofNat n)), .val (.int (1 : Int32)), .val (.int (0 : Int32))] [(.ref b52)])) _
        refine XS.iload X88.here hx rfl (hb hby at_185) rfl ?_
        show Steps p.tables e below (T88.setTop (mkF m 187 #[.val (.long jw), .second, .val (.int p2), .val (.int p3), .val (.ref b52), .val (.int (Int32.ofNat sn)), .val (.int (Int32.ofNat n)), .val (.int (1 : Int32)), .val (.int (0 : Int32))] [(.int (Int32.ofNat sn)), (.ref b52)])) _
        refine XS.iload X88.here hx rfl (hb hby at_187) rfl ?_
        show Steps p.tables e below (T88.setTop (mkF m 189 #[.val (.long jw), .second, .val (.int p2), .val (.int p3), .val (.ref b52), .val (.int (Int32.ofNat sn)), .val (.int (Int32.ofNat n)), .val (.int (1 : Int32)), .val (.int (0 : Int32))] [(.int (Int32.ofNat n)), (.int (Int32.ofNat sn)), (.ref b52)])) _
        exact k)
    obtain ⟨_, _, ⟨T130, L130, kk130, nn130⟩, -, X130, ⟨Lc130, hQ130, l130, y130, z130⟩, st130⟩ := Jvm.LawKit.callS X88 hx (y := (⟨"com/example/lune12/lune12/document/JsonSyntax", "isWhole", "([BII)Z"⟩ : MethodName)) hown (mvT hZ (hw _ (List.mem_of_getElem? (i := 8) rfl))) (mvT hZ (hw _ (List.mem_of_getElem? (i := 9) rfl))) (mvT hZ (hw _ (List.mem_of_getElem? (i := 10) rfl))) (mvT hZ (hw _ (List.mem_of_getElem? (i := 11) rfl))) (by decide) (backOf (W := 0) (rm3 l Z a0 hw [] b52 sn n hs hn f cl h82 n0 Z82 Ar S H) hZ (hw _ (List.mem_of_getElem? (i := 11) rfl)) (hw _ (List.mem_of_getElem? (i := 10) rfl)) (by decide) (by decide)) (g := (mkF m 189 #[.val (.long jw), .second, .val (.int p2), .val (.int p3), .val (.ref b52), .val (.int (Int32.ofNat sn)), .val (.int (Int32.ofNat n)), .val (.int (1 : Int32)), .val (.int (0 : Int32))] [(.int (Int32.ofNat n)), (.int (Int32.ofNat sn)), (.ref b52)])) rfl (by rw [hml]; rfl) (argsL := [(.ref b52), (.int (Int32.ofNat sn)), (.int (Int32.ofNat n))]) (rest := []) (lenOf pd___BII_Z rfl) rfl (by show 2 * 0 + _ ≤ _; exact Nat.le_of_eq rfl) (hb hby at_189) (fun _ _ => ⟨rfl, e88, (by decide : 1 + 0 ≤ _), (by decide : 6 + 0 ≤ _)⟩)
    dsimp only [Pt.U, Pt.locs, Pt.cells, Pt.slots] at X130 l130 y130 z130 st130 hQ130
    subst l130 y130 z130
    obtain ⟨rfl, Nq130, e130⟩ := hQ130
    have N130 := Fr.app N88 Nq130
    have q131 : ∀ t, Steps p.tables e below (T130.setTop (mkF m 192 #[.val (.long jw), .second, .val (.int p2), .val (.int p3), .val (.ref b52), .val (.int (Int32.ofNat sn)), .val (.int (Int32.ofNat n)), .val (.int (1 : Int32)), .val (.int (0 : Int32))] [(.int (own_wh f (n - sn) sn))])) t → Steps p.tables e below (s₁.setTop (entryFrame m #[(.long jw), (.int p2), (.int p3)] maxLocals)) t := fun t k => q129 t (st130 t k)
    have q132 : ∀ t, Steps p.tables e below (T130.setTop (mkF m 202 #[.val (.long jw), .second, .val (.int p2), .val (.int p3), .val (.ref b52), .val (.int (Int32.ofNat sn)), .val (.int (Int32.ofNat n)), .val (.int (1 : Int32)), .val (.int (0 : Int32))] [(.int (1 : Int32))])) t → Steps p.tables e below (s₁.setTop (entryFrame m #[(.long jw), (.int p2), (.int p3)] maxLocals)) t := fun t k => q131 t (by
        show Steps p.tables e below (T130.setTop (mkF m 192 #[.val (.long jw), .second, .val (.int p2), .val (.int p3), .val (.ref b52), .val (.int (Int32.ofNat sn)), .val (.int (Int32.ofNat n)), .val (.int (1 : Int32)), .val (.int (0 : Int32))] [(.int (own_wh f (n - sn) sn))])) _
        refine XS.iload X130.here hx rfl (hb hby at_192) rfl ?_
        show Steps p.tables e below (T130.setTop (mkF m 194 #[.val (.long jw), .second, .val (.int p2), .val (.int p3), .val (.ref b52), .val (.int (Int32.ofNat sn)), .val (.int (Int32.ofNat n)), .val (.int (1 : Int32)), .val (.int (0 : Int32))] [(.int (0 : Int32)), (.int (own_wh f (n - sn) sn))])) _
        refine XS.icmpNo X130.here hx rfl (hb hby at_194) rfl (XT.ii_ne_f (own_yes u_0 : (own_wh f (n - sn) sn) = (0 : Int32))) ?_
        show Steps p.tables e below (T130.setTop (mkF m 197 #[.val (.long jw), .second, .val (.int p2), .val (.int p3), .val (.ref b52), .val (.int (Int32.ofNat sn)), .val (.int (Int32.ofNat n)), .val (.int (1 : Int32)), .val (.int (0 : Int32))] [])) _
        refine XS.iconst X130.here hx rfl (hb hby at_197) ?_
        show Steps p.tables e below (T130.setTop (mkF m 198 #[.val (.long jw), .second, .val (.int p2), .val (.int p3), .val (.ref b52), .val (.int (Int32.ofNat sn)), .val (.int (Int32.ofNat n)), .val (.int (1 : Int32)), .val (.int (0 : Int32))] [(.int (1 : Int32))])) _
        refine XS.goto X130.here hx rfl (pc0 := 198) (pc' := 202) rfl (hb hby at_198) (by decide) (by decide) ?_
        show Steps p.tables e below (T130.setTop (mkF m 202 #[.val (.long jw), .second, .val (.int p2), .val (.int p3), .val (.ref b52), .val (.int (Int32.ofNat sn)), .val (.int (Int32.ofNat n)), .val (.int (1 : Int32)), .val (.int (0 : Int32))] [(.int (1 : Int32))])) _
        exact k)
    obtain ⟨fs, hr, hrun, hended, hW, hsame⟩ := X130.leave (v := some (.int (1 : Int32))) (fun h => by rw [Bd.returns] at h; cases h)
    refine ⟨_, _, q132 _ ?_, hrun, hended, _, _, rfl, ?_, ⟨_, rfl⟩, hW, hsame.mono (by decide) (by decide)⟩
    · show Steps p.tables e below (T130.setTop (mkF m 202 #[.val (.long jw), .second, .val (.int p2), .val (.int p3), .val (.ref b52), .val (.int (Int32.ofNat sn)), .val (.int (Int32.ofNat n)), .val (.int (1 : Int32)), .val (.int (0 : Int32))] [(.int (1 : Int32))])) _
      exact retN X130 hx (t := .boolean) Bd.returns (by simp) (hb hby at_202) hr
    · show QL n0 _ T130.heap _
      exact ⟨rfl, N130⟩
set_option maxRecDepth 65536 in
set_option maxHeartbeats 40000000 in
theorem comes_1 {Post : Tables → Env → Array Value → State → Outcome → State → Prop} (hpost : ∀ tb e args s v u, (limb_1_1.after args s (.returned v) u = true ∧ limb_1_2.after args s (.returned v) u = true ∧ True) → FrameEnd s (.returned v) u (Jvm.fieldLocs frame_1_writes args s ++ Jvm.arrayLocs frame_1_arrays args s ++ Jvm.staticLocs frame_1_statics s) 16 128 → Post tb e args s (.returned v) u) :
    ArmFor flags0 classFile x code maxLocals ret World_1 tables_1 room_1 Calls_1 rest_1 Pre_1 Post := by
  intro l hfl _ _ p e ha hc hk s m args below hf hA hF happ hP
  obtain ⟨hcalls, hrest, hpre⟩ := hP
  obtain ⟨-, -, -, hnamed, -, -, -, hat⟩ := (Spec.applies_iff hf).mp happ
  obtain ⟨hg, hn⟩ := and_e (Cond.before_iff.mp (show (Jvm.Cond.and given_1 narrow_1).before args s = true from hpre))
  obtain ⟨gc, r0⟩ := and_e hg
  obtain ⟨g0, r1⟩ := and_e r0
  obtain ⟨g1, r2⟩ := and_e r1
  obtain ⟨w0, w1, w2, rfl⟩ : ∃ w0 w1 w2 : Value, args = #[w0, w1, w2] := by
    have hs : args.size = 3 := by simpa [Cond.value, given_1] using gc
    obtain ⟨L⟩ := args
    match L, hs with
    | [w0, w1, w2], _ => exact ⟨w0, w1, w2, rfl⟩
  have hw := fun d (hd : d ∈ tables_1) => atoms_spec (ws := Jvm.Cond.code x code maxLocals ret :: tables_1) hat d (List.mem_cons_of_mem _ hd)
  obtain ⟨i0, ei0⟩ := isL_v g0
  obtain rfl : w0 = (.long i0) := Option.some.inj ei0
  obtain ⟨i1, ei1⟩ := is_v g1
  obtain rfl : w1 = (.int i1) := Option.some.inj ei1
  obtain ⟨i2, ei2⟩ := is_v r2
  obtain rfl : w2 = (.int i2) := Option.some.inj ei2
  obtain ⟨n, o, h1, h2, h3, _, L, rfl, ⟨rfl, N⟩, hq⟩ := rm0 l s _ hw tables_1 i0 i1 i2 s.heap s.heap.size (Nat.le_refl _) p e ha hc hk s m _ below hf ((Spec.applies_iff_loose hf).mp happ).1 ⟨rfl, State.Warmed39.refl s, rfl⟩ trivial
  refine ⟨n, _, h1, h2, h3, hpost _ _ _ _ _ _ ⟨Cond.after_iff.mpr rfl, Cond.after_iff.mpr (eq_i res_at (Term.int_eval (1)) rfl), trivial⟩ ⟨hq.1, hq.2.1, (hq.2.2.sift fun y hy => Or.inr (N y hy)).mono (by decide) (by decide)⟩⟩
theorem main_1_1 : Claimed_1_1 := comes_1 fun _ _ _ _ _ _ h hF => ⟨h.1, hF⟩
theorem main_1_2 : Claimed_1_2 := comes_1 fun _ _ _ _ _ _ h hF => ⟨h.2.1, hF⟩
end Jvm.Pilot.@@N@@
namespace Jvm.Pilot.@@N@@
open Jvm Jvm.ClassFile Sem Op Lib Jvm.Free Jvm.Stand Jvm.Pilot.@@N@@.Jvm.D
/-! MADE BY PROGRAM (witnessworld.py) out of the Statement's table words and the real class files: 9 classes; the members and pool entries that the words name. The judged class is class 1, her method 1. -/
namespace start1
open Jvm.ClassFile
def u (s : String) : CpInfo := .utf8 (stringToUtf16 s)
/-- a pool by its gaps: so many unusable entries, then the entry; so many at the end -/
def gap : Nat → List CpInfo → List CpInfo
  | 0, r => r
  | n + 1, r => .unusable :: gap n r
def poolList (es : List (Nat × CpInfo)) (last : Nat) : List CpInfo := es.foldr (fun e r => gap e.1 (e.2 :: r)) (gap last [])
def pool (es : List (Nat × CpInfo)) (last : Nat) : Array CpInfo := ⟨poolList es last⟩
def fileOf (pool : Array CpInfo) (this : Nat) (attrs : Array Attribute := #[]) (ms : Array MethodInfo := #[]) (fl : Nat := 33) (sup : Nat := 0) (ifs : Array Nat := #[]) (fds : Array FieldInfo := #[]) : ClassFile where
  minorVersion := 0
  majorVersion := 65
  constantPool := pool
  accessFlags := fl
  thisClass := this
  superClass := sup
  interfaces := ifs
  fields := fds
  methods := ms
  attributes := attrs
def plain (name : String) (sup : Option ClassId) : Class where
  name := name
  kind := .ordinary
  loader := none
  accessFlags := 33
  super := sup
  interfaces := #[]
  cf := none
  fields := #[]
  methods := #[]
  instanceTypes := #[]
  staticTypes := #[]
  resolved := #[]
  callSites := []
  init := .initialized
  statics := none
  mirror := none

def pool0 : Array CpInfo := pool [(5, u "<init>"), (0, u "()V"), (1, .class_ 10), (1, u "java/lang/Object")] 113

def k0m0 : Method := { name := "<init>", desc := "()V", sig := { parameters := [], returnType := none }, accessFlags := 1, code := none }
/-- java/lang/Object -/
def k0 : Class := { plain "java/lang/Object" none with
  accessFlags := 33
  interfaces := #[]
  cf := some (fileOf pool0 8 #[] #[{ accessFlags := 1, nameIndex := 5, descriptorIndex := 6, attributes := #[] }] 33 0 #[] #[])
  fields := #[]
  methods := #[k0m0]
  instanceTypes := #[]
  staticTypes := #[]
  resolved := Array.replicate 124 none
  statics := none }

def pool1 : Array CpInfo := pool [(2, .class_ 4), (1, u "java/lang/Object"), (0, u "<init>"), (0, u "()V"), (0, .methodref 8 9), (0, .class_ 10), (0, .nameAndType 11 12), (0, u "com/example/lune12/lune12/document/JsonSyntaxIsWholePinLaw"), (0, u "pick"), (0, u "(JII)B"), (0, .methodref 8 14), (0, .nameAndType 15 16), (0, u "stopAt"), (0, u "([BIII)Z"), (0, .methodref 18 19), (0, .class_ 20), (0, .nameAndType 21 22), (0, u "com/example/lune12/lune12/document/JsonSyntax"), (0, u "isWhole"), (0, u "([BII)Z"), (2, u "law"), (0, u "(JII)Z")] 5

def k1m0 : Method := { name := "<init>", desc := "()V", sig := { parameters := [], returnType := none }, accessFlags := 2, code := none }
def k1c1 : Code := { maxStack := 6, maxLocals := 9, code := code, exceptionTable := #[], attributes := #[] }
def k1m1 : Method := { name := "law", desc := "(JII)Z", sig := { parameters := [.long, .int, .int], returnType := some .boolean }, accessFlags := 9, code := some k1c1 }
def k1c2 : Code := { maxStack := 4, maxLocals := 5, code := method_3_code, exceptionTable := #[], attributes := #[] }
def k1m2 : Method := { name := "pick", desc := "(JII)B", sig := { parameters := [.long, .int, .int], returnType := some .byte }, accessFlags := 10, code := some k1c2 }
def k1c3 : Code := { maxStack := 2, maxLocals := 5, code := method_4_code, exceptionTable := #[], attributes := #[] }
def k1m3 : Method := { name := "stopAt", desc := "([BIII)Z", sig := { parameters := [(.array .byte), .int, .int, .int], returnType := some .boolean }, accessFlags := 10, code := some k1c3 }
/-- com/example/lune12/lune12/document/JsonSyntaxIsWholePinLaw -/
def k1 : Class := { plain "com/example/lune12/lune12/document/JsonSyntaxIsWholePinLaw" (some 0) with
  accessFlags := 49
  interfaces := #[]
  cf := some (fileOf pool1 8 #[] #[{ accessFlags := 2, nameIndex := 5, descriptorIndex := 6, attributes := #[] }, { accessFlags := 9, nameIndex := 25, descriptorIndex := 26, attributes := #[] }, { accessFlags := 10, nameIndex := 11, descriptorIndex := 12, attributes := #[] }, { accessFlags := 10, nameIndex := 15, descriptorIndex := 16, attributes := #[] }] 49 2 #[] #[])
  fields := #[]
  methods := #[k1m0, k1m1, k1m2, k1m3]
  instanceTypes := #[]
  staticTypes := #[]
  resolved := Array.replicate 32 none
  statics := none }

def pool2 : Array CpInfo := pool [(2, .class_ 4), (1, u "java/lang/Object"), (0, u "<init>"), (0, u "()V"), (1, .class_ 10), (1, u "com/example/lune12/lune12/document/JsonSyntax"), (26, u "WORDS"), (0, u "Ljava/lang/invoke/VarHandle;"), (39, u "MOST_NUMBER_LENGTH"), (0, u "I"), (2, u "ONES"), (0, u "J"), (0, u "SPACES"), (0, u "QUOTATION_MARKS"), (0, u "REVERSE_SOLIDI"), (0, u "TOP_BITS"), (9, u "([BII)Z"), (2, u "isWhole")] 3

def k2m0 : Method := { name := "<init>", desc := "()V", sig := { parameters := [], returnType := none }, accessFlags := 2, code := none }
def k2c1 : Code := { maxStack := 2, maxLocals := 6, code := prog_33_method_8_code, exceptionTable := #[], attributes := #[] }
def k2m1 : Method := { name := "isWhole", desc := "([BII)Z", sig := { parameters := [(.array .byte), .int, .int], returnType := some .boolean }, accessFlags := 8, code := some k2c1 }
/-- com/example/lune12/lune12/document/JsonSyntax -/
def k2 : Class := { plain "com/example/lune12/lune12/document/JsonSyntax" (some 0) with
  accessFlags := 48
  interfaces := #[]
  cf := some (fileOf pool2 8 #[] #[{ accessFlags := 2, nameIndex := 5, descriptorIndex := 6, attributes := #[] }, { accessFlags := 8, nameIndex := 100, descriptorIndex := 97, attributes := #[] }] 48 2 #[] #[{ accessFlags := 24, nameIndex := 78, descriptorIndex := 79, attributes := #[] }, { accessFlags := 26, nameIndex := 37, descriptorIndex := 38, attributes := #[] }, { accessFlags := 26, nameIndex := 82, descriptorIndex := 83, attributes := #[] }, { accessFlags := 26, nameIndex := 84, descriptorIndex := 83, attributes := #[] }, { accessFlags := 26, nameIndex := 85, descriptorIndex := 83, attributes := #[] }, { accessFlags := 26, nameIndex := 86, descriptorIndex := 83, attributes := #[] }, { accessFlags := 26, nameIndex := 87, descriptorIndex := 83, attributes := #[] }])
  fields := #[{ name := "MOST_NUMBER_LENGTH", type := .int, accessFlags := 24, slot := 0, constantValue := 0 }, { name := "WORDS", type := (.object "java/lang/invoke/VarHandle"), accessFlags := 26, slot := 1, constantValue := 0 }, { name := "ONES", type := .long, accessFlags := 26, slot := 2, constantValue := 0 }, { name := "SPACES", type := .long, accessFlags := 26, slot := 3, constantValue := 0 }, { name := "QUOTATION_MARKS", type := .long, accessFlags := 26, slot := 4, constantValue := 0 }, { name := "REVERSE_SOLIDI", type := .long, accessFlags := 26, slot := 5, constantValue := 0 }, { name := "TOP_BITS", type := .long, accessFlags := 26, slot := 6, constantValue := 0 }]
  methods := #[k2m0, k2m1]
  instanceTypes := #[]
  staticTypes := #[.int, (.object "java/lang/invoke/VarHandle"), .long, .long, .long, .long, .long]
  resolved := Array.replicate 104 none
  statics := none }

def pool3 : Array CpInfo := pool [(1, u "java/lang/Cloneable"), (0, .class_ 1), (0, u "java/lang/Object"), (0, .class_ 3)] 3

/-- java/lang/Cloneable -/
def k3 : Class := { plain "java/lang/Cloneable" (some 0) with
  accessFlags := 1537
  interfaces := #[]
  cf := some (fileOf pool3 2 #[] #[] 1537 4 #[] #[])
  fields := #[]
  methods := #[]
  instanceTypes := #[]
  staticTypes := #[]
  resolved := Array.replicate 8 none
  statics := none }

def pool4 : Array CpInfo := pool [(1, u "java/io/Serializable"), (0, .class_ 1), (0, u "java/lang/Object"), (0, .class_ 3)] 3

/-- java/io/Serializable -/
def k4 : Class := { plain "java/io/Serializable" (some 0) with
  accessFlags := 1537
  interfaces := #[]
  cf := some (fileOf pool4 2 #[] #[] 1537 4 #[] #[])
  fields := #[]
  methods := #[]
  instanceTypes := #[]
  staticTypes := #[]
  resolved := Array.replicate 8 none
  statics := none }

/-- the primitive byte -/
def k5 : Class := { plain "byte" none with kind := .primitive 'B', accessFlags := 0x411 }
/-- [B -/
def k6 : Class := { plain "[B" (some 0) with kind := .array 5 .byte, interfaces := #[3, 4], accessFlags := 1041 }

/-- the primitive int -/
def k7 : Class := { plain "int" none with kind := .primitive 'I', accessFlags := 0x411 }
/-- [I -/
def k8 : Class := { plain "[I" (some 0) with kind := .array 7 .int, interfaces := #[3, 4], accessFlags := 1041 }

def heap : Heap := #[]
def classes : Array Class := #[k0, k1, k2, k3, k4, k5, k6, k7, k8]
def interned : List (Array UInt16 × Addr) := []
def slotsUsed : Nat := 0
def theMethod : MethodId := ⟨1, 1⟩
def args0 : Array Value := #[.long 5, .int 6, .int 7]
def aboutOver (below : List Frame) : State where
  vm := { classes := classes, interned := interned.toArray }
  heap := heap
  slotsUsed := slotsUsed
  threads := #[{ frames := .invoking theMethod args0 :: below }]
def below0 : List Frame := [.native { method := ⟨0, 0⟩, args := #[] }]
def about1 : State := aboutOver below0
def p0 : Program := .bare "" "" ""
def e0 : Env := launch0.env 0 0 0
theorem w_frames : about1.frames = Frame.invoking theMethod args0 :: below0 := rfl
set_option maxRecDepth 65536 in
theorem w_args : argsFit about1.vm theMethod args0 = true := by decide +kernel
set_option maxRecDepth 65536 in
theorem w_heap : heapFits about1 = true := by decide +kernel
set_option maxRecDepth 65536 in
theorem w_runnable : about1.curStatus? = some .runnable := by decide +kernel
set_option maxRecDepth 65536 in
theorem w_alone : about1.alone = true := by decide +kernel
set_option maxRecDepth 65536 in
theorem w_named : about1.methodNamed? x = some theMethod := by decide +kernel
set_option maxRecDepth 65536 in
theorem w_hears : about1.hears theMethod below0 = true := by decide +kernel
set_option maxRecDepth 65536 in
theorem w_ripe : about1.ripe theMethod args0 below0 = true := by decide +kernel
theorem w_running : about1.status = .running := rfl
set_option maxRecDepth 65536 in
theorem w_room : about1.hasRoom e0.platform room_1 = true :=
  launch0.hasRoom_least _ room_1 (by decide +kernel) (by decide +kernel) (by decide +kernel) (by decide +kernel) (by decide +kernel) (by decide +kernel)
theorem allAtoms_all (ts : List Jvm.Cond) (a : Array Jvm.Value) (st : Jvm.State) : (allAtoms ts).before a st = ts.all (fun c => c.before a st) := by
  induction ts with
  | nil => rfl
  | cons c t ih =>
    show (Jvm.Cond.and c (allAtoms t)).before a st = _
    rw [Jvm.Cond.before_and, ih, List.all_cons]
def words1 : List Jvm.Cond := Jvm.Cond.code x code maxLocals ret :: tables_1
/-- a 'code' word, met by the world's own term for the bytes: nothing is compared byte by byte -/
theorem code_word {y : MethodName} {bytes : ByteArray} {mx : Nat} {rt : Option FieldType} {a : Array Value} {s : State} {m : MethodId} {meth : Method} {c : Code} (h1 : s.methodNamed? y = some m) (h2 : s.vm.method? m = some meth) (h3 : meth.code = some c) (h4 : c.code = bytes)
    (h5 : (c.maxLocals == mx && c.exceptionTable.isEmpty && decide (c.maxStack ≤ mostOperands) && decide (meth.sig.returnType = rt) && !meth.locks && decide (parseMethodDescriptor y.desc = some meth.sig)) = true) : (Jvm.Cond.code y bytes mx rt).before a s = true := by
  simp only [Bool.and_eq_true, beq_iff_eq, Bool.not_eq_true', decide_eq_true_eq] at h5
  obtain ⟨⟨⟨⟨⟨g1, g2⟩, g3⟩, g4⟩, g5⟩, g6⟩ := h5
  simp [Cond.before, Cond.holds, Cond.value, h1, h2, h3, h4, g1, g2, g3, g4, g5, g6]
def isCode : Jvm.Cond → Bool
  | .code _ _ _ _ => true
  | _ => false
theorem all_split {L : List Jvm.Cond} {P : Jvm.Cond → Bool} (h1 : L.all (fun c => isCode c || P c) = true) (h2 : ∀ c ∈ L.filter isCode, P c = true) : L.all P = true := by
  refine List.all_eq_true.mpr fun c hc => ?_
  have h := List.all_eq_true.mp h1 c hc
  rcases Bool.eq_false_or_eq_true (isCode c) with hi | hi
  · exact h2 c (List.mem_filter.mpr ⟨hc, hi⟩)
  · simpa [hi] using h
set_option maxRecDepth 65536 in
theorem w_c0 : (Jvm.Cond.code x code maxLocals ret).before args0 about1 = true := code_word (m := ⟨1, 1⟩) (meth := k1m1) (c := k1c1) (by decide +kernel) rfl rfl rfl (by decide +kernel)
set_option maxRecDepth 65536 in
theorem w_c1 : (Jvm.Cond.code ({ cls := "com/example/lune12/lune12/document/JsonSyntaxIsWholePinLaw", name := "pick", desc := "(JII)B" } : Jvm.MethodName) method_3_code (5 : Nat) (Option.some Jvm.ClassFile.FieldType.byte)).before args0 about1 = true := code_word (m := ⟨1, 2⟩) (meth := k1m2) (c := k1c2) (by decide +kernel) rfl rfl rfl (by decide +kernel)
set_option maxRecDepth 65536 in
theorem w_c2 : (Jvm.Cond.code ({ cls := "com/example/lune12/lune12/document/JsonSyntaxIsWholePinLaw", name := "stopAt", desc := "([BIII)Z" } : Jvm.MethodName) method_4_code (5 : Nat) (Option.some Jvm.ClassFile.FieldType.boolean)).before args0 about1 = true := code_word (m := ⟨1, 3⟩) (meth := k1m3) (c := k1c3) (by decide +kernel) rfl rfl rfl (by decide +kernel)
set_option maxRecDepth 65536 in
theorem w_c3 : (Jvm.Cond.code ({ cls := "com/example/lune12/lune12/document/JsonSyntax", name := "isWhole", desc := "([BII)Z" } : Jvm.MethodName) prog_33_method_8_code (6 : Nat) (Option.some Jvm.ClassFile.FieldType.boolean)).before args0 about1 = true := code_word (m := ⟨2, 1⟩) (meth := k2m1) (c := k2c1) (by decide +kernel) rfl rfl rfl (by decide +kernel)
def codes1 : List Jvm.Cond := [Jvm.Cond.code x code maxLocals ret, Jvm.Cond.code ({ cls := "com/example/lune12/lune12/document/JsonSyntaxIsWholePinLaw", name := "pick", desc := "(JII)B" } : Jvm.MethodName) method_3_code (5 : Nat) (Option.some Jvm.ClassFile.FieldType.byte), Jvm.Cond.code ({ cls := "com/example/lune12/lune12/document/JsonSyntaxIsWholePinLaw", name := "stopAt", desc := "([BIII)Z" } : Jvm.MethodName) method_4_code (5 : Nat) (Option.some Jvm.ClassFile.FieldType.boolean), Jvm.Cond.code ({ cls := "com/example/lune12/lune12/document/JsonSyntax", name := "isWhole", desc := "([BII)Z" } : Jvm.MethodName) prog_33_method_8_code (6 : Nat) (Option.some Jvm.ClassFile.FieldType.boolean)]
set_option maxRecDepth 65536 in
theorem codes_eq : words1.filter isCode = codes1 := rfl
theorem w_codes : ∀ c ∈ words1.filter isCode, c.before args0 about1 = true := by
  rw [codes_eq]
  intro c hc
  simp only [codes1, List.mem_cons, List.not_mem_nil, or_false] at hc
  rcases hc with rfl | rfl | rfl | rfl
  · exact w_c0
  · exact w_c1
  · exact w_c2
  · exact w_c3
set_option maxRecDepth 65536 in
theorem w_t1 : words1.all (fun c => isCode c || c.before args0 about1) = true := by decide +kernel
theorem w_tables : (allAtoms (Jvm.Cond.code x code maxLocals ret :: tables_1)).before args0 about1 = true := by
  rw [allAtoms_all]
  show words1.all (fun c => c.before args0 about1) = true
  refine all_split ?_ w_codes
  rw [w_t1]
set_option maxRecDepth 65536 in
theorem w_case : (Jvm.Cond.and given_1 narrow_1).before args0 about1 = true := by decide +kernel
theorem w_applies : (headSpec (Jvm.Cond.code x code maxLocals ret :: tables_1) room_1).applies x e0.platform about1 = true :=
  (Spec.applies_iff w_frames).mpr ⟨w_running, w_runnable, w_alone, w_named, w_hears, w_ripe, w_room, w_tables⟩
theorem atStart : AtStart classFile x code maxLocals ret World_1 tables_1 room_1 Calls_1 rest_1 Pre_1 launch0 p0 e0 about1 theMethod args0 below0 :=
  ⟨lists_1, trivial, launch0.admits_env _ _ _, launch0.least_env, fairChoices_fair.cas, fairChoices_fair.clock, w_frames, w_args, w_heap, w_applies, trivial, trivial, w_case⟩
end start1
theorem witness_1 : WitnessClaimed_1 := ⟨start1.p0, start1.e0, start1.about1, start1.theMethod, start1.args0, start1.below0, start1.atStart⟩
end Jvm.Pilot.@@N@@
