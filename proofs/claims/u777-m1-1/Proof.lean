import JvmDerived
import JvmDerived.Pilot.@@N@@Statement
import JvmDerived.Pilot.@@N@@Code
set_option linter.unusedVariables false
set_option linter.unusedSimpArgs false
namespace Jvm.RoadKit
open Sem ClassFile Op Lib Jvm.Stand Jvm.Free Jvm.LawKit
section New
variable {p : Program} {l : Launch} {e : Env} {R : Room} {s : State} {m : MethodId} {args : Array Value} {below : List Frame} {meth : Method} {c : Code} {T : State} {locs : List Loc} {cells slots : Nat}
theorem retI (X : Stand p l e R s m args below meth c T locs cells slots) (hx : p.tables.exec = Jvm.exec) {pc : Nat} {Ls : Array Slot} {z : Int32} {rest : List Value} (hret : meth.sig.returnType = some .int) (hd : decode c.code pc = .ok (.ireturn, 1)) {fs : List Frame}
    (hl : ∀ (f : JFrame) (acts : List Action), f.method = m → f.locked = none → f.entered = [] → (doReturn e (T.setTop f) acts (some (.int z))).1 = T.setFrames fs) : Steps p.tables e below (T.setTop (mkF m pc Ls (.int z :: rest))) (T.setFrames fs) := by
  have hm' : T.vm.method? m = some meth := X.method'
  have hn : narrow .int (.int z) = .int z := rfl
  show Steps p.tables e below (T.setTop { method := m, pc := pc, locals := Ls, stack := _ :: rest, locked := none }) _
  jvm_step X.here [X.here.top, hx, hd, hm', hret, hn]
  first | (intro acts; rw [hl _ acts rfl rfl rfl]) | rw [hl _ _ rfl rfl rfl]
  exact Steps.refl _
end New
end Jvm.RoadKit
namespace Jvm.Pilot.@@N@@
open Jvm Jvm.ClassFile Sem Op Lib Jvm.Free Jvm.Stand Jvm.LawKit Jvm.RoadKit Bundle Jvm.Pilot.@@N@@.Jvm.D
def QN (r : Int32) (h0 : Heap) (n0 : Nat) (v : Option Value) (h : Heap) (L : List Loc) : Prop := v = some (.int r) ∧ Fr n0 L ∧ h = h0
theorem own_lt {x y : Int32} (h : x.toInt < y.toInt) : x < y := Int32.lt_iff_toInt_lt.mpr h
theorem own_nlt {x y : Int32} (h : ¬ x.toInt < y.toInt) : ¬ x < y := fun q => h (Int32.lt_iff_toInt_lt.mp q)
theorem own_eq {x y : Int32} (h : x.toInt = y.toInt) : x = y := Int32.toInt_inj.mp h
theorem own_ne {x y : Int32} (h : ¬ x.toInt = y.toInt) : ¬ x = y := fun q => h (Int32.toInt_inj.mpr q)
/-- a byte array by a function: its length N, place i holds f i -/
def Bt (Z : State) (h : Heap) (a : Addr) (N : Int32) (f : Nat → Int32) : Prop := ∃ c : Cell, Arr Z h a c .byte ∧ c.slots.size = N.toNatClampNeg ∧ ¬ N < 0 ∧ ∀ i, i < c.slots.size → c.slots[i]? = some (.int (f i))
theorem Bt.new {Z : State} {h : Heap} {a : Addr} {k : ClassId} {N : Int32} (A : Arr Z h a (newA k .byte N) .byte) (q : ¬ N < 0) : Bt Z h a N (fun _ => 0) :=
  ⟨_, A, sz_new _ _ _, q, fun i hi => by rw [sz_new] at hi; simp [newA, hi, defaultValue]⟩
theorem Bt.set {Z : State} {h h' : Heap} {a : Addr} {N j v : Int32} {f : Nat → Int32} {c : Cell} (A : Arr Z h a c .byte) (S : c.slots.size = N.toNatClampNeg) (M : ¬ N < 0) (H : ∀ i, i < c.slots.size → c.slots[i]? = some (.int (f i))) (W : Wr h h' a j.toNatClampNeg (.int v)) : Bt Z h' a N (fun i => if i = j.toNatClampNeg then v else f i) := by
  refine ⟨_, A.same W, by rw [sz_set]; exact S, M, fun i hi => ?_⟩
  rw [sz_set] at hi
  show (c.setSlot j.toNatClampNeg (.int v)).slots[i]? = some (.int (if i = j.toNatClampNeg then v else f i))
  by_cases u : i = j.toNatClampNeg
  · rw [if_pos u]; subst u; simp [Cell.setSlot, hi]
  · rw [if_neg u]; simp only [Cell.setSlot]; rw [Array.getElem?_setIfInBounds_ne (fun y => u y.symm)]; exact H i hi
theorem Bt.lt {Z : State} {h : Heap} {a : Addr} {N : Int32} {f : Nat → Int32} (B : Bt Z h a N f) : a < h.size := by obtain ⟨c, A, -⟩ := B; exact A.lt
theorem Bt.ext {Z : State} {h h' : Heap} {a : Addr} {N : Int32} {f : Nat → Int32} (B : Bt Z h a N f) (E : Ext h h') : Bt Z h' a N f := by obtain ⟨c, A, r⟩ := B; exact ⟨c, A.ext E, r⟩
theorem Bt.other {Z : State} {h h' : Heap} {a b : Addr} {sl : Nat} {v : Value} {N : Int32} {f : Nat → Int32} (B : Bt Z h b N f) (W : Wr h h' a sl v) (q : b ≠ a) : Bt Z h' b N f := by obtain ⟨c, A, r⟩ := B; exact ⟨c, A.other W q, r⟩
theorem own_nb (x : Int32) : nar .byte (x.toInt8.toInt32) = x.toInt8.toInt32 := by show (x.toInt8.toInt32).toInt8.toInt32 = _; simp
theorem own_n32 {n : Nat} (hn : n ≤ 255) : (Int32.ofNat n).toNatClampNeg = n := by
  rw [Int32.toNatClampNeg, Int32.toInt_ofNat_of_lt (by omega)]; rfl
theorem own_ti {n : Nat} (hn : n ≤ 255) : (Int32.ofNat n).toInt = n := Int32.toInt_ofNat_of_lt (by omega)
theorem own_add (i j : Nat) : Int32.ofNat (i + j) = Int32.ofNat i + Int32.ofNat j := Int32.ofNat_add i j
theorem own_zero (i : Nat) : Int32.ofNat (i + 0) = Int32.ofNat i + (0 : Int32) := Int32.ofNat_add i 0
theorem own_one (i : Nat) : Int32.ofNat (i + 1) = Int32.ofNat i + (1 : Int32) := Int32.ofNat_add i 1
theorem own_two (i : Nat) : Int32.ofNat (i + 2) = Int32.ofNat i + (2 : Int32) := Int32.ofNat_add i 2
theorem own_sub (i m : Nat) : Int32.ofNat m = Int32.ofNat (i + m) - Int32.ofNat i := by rw [own_add, Int32.add_comm, Int32.add_sub_cancel]
theorem own_sub0 (m : Nat) : Int32.ofNat m = Int32.ofNat m - (0 : Int32) := (Int32.sub_zero _).symm
theorem own_nat {x : Int32} (h0 : 0 ≤ x.toInt) (k : Nat) (hk : x.toInt ≤ k) (hk' : k ≤ 255) : ∃ n : Nat, n ≤ k ∧ x = Int32.ofNat n :=
  ⟨x.toInt.toNat, by omega, own_eq (by rw [own_ti (by omega)]; omega)⟩
theorem own_ltn {i n : Nat} (hi : i ≤ 255) (hn : n ≤ 255) : Int32.ofNat i < Int32.ofNat n ↔ i < n := by rw [Int32.lt_iff_toInt_lt, own_ti hi, own_ti hn]; omega
theorem own_neg {i : Nat} (hi : i ≤ 255) : ¬ Int32.ofNat i < 0 := own_nlt (by rw [own_ti hi]; show ¬ (i : Int) < 0; omega)
theorem own_in {cl : Cell} {n i : Nat} (S : cl.slots.size = n) (h : i < n) (hn : n ≤ 255) : ¬ (Int32.ofNat i < 0 ∨ cl.slots.size ≤ (Int32.ofNat i).toNatClampNeg) := by
  rw [S, own_n32 (by omega)]; exact fun y => y.elim (own_neg (by omega)) (fun y => by omega)
theorem own_hat {cl : Cell} {n i : Nat} {f : Nat → Int32} (S : cl.slots.size = n) (H : ∀ i, i < cl.slots.size → cl.slots[i]? = some (.int (f i))) (h : i < n) (hn : n ≤ 255) : cl.slots[(Int32.ofNat i).toNatClampNeg]? = some (.int (f i)) := by
  rw [own_n32 (by omega)]; exact H i (by omega)
def QV (h0 : Heap) (n0 : Nat) (v : Option Value) (h : Heap) (L : List Loc) : Prop := v = none ∧ Fr n0 L ∧ h = h0
/-- the first of m places (from i in f, from 0 in g) at which the two part, or -1 -/
def own_mis (f g : Nat → Int32) (i m : Nat) : Int32 := match m with
  | 0 => -1
  | 1 => if f (i + 0) = g 0 then -1 else 0
  | 2 => if f (i + 0) = g 0 then (if f (i + 1) = g 1 then -1 else 1) else 0
  | _ => if f (i + 0) = g 0 then (if f (i + 1) = g 1 then (if f (i + 2) = g 2 then -1 else 2) else 1) else 0
theorem own_mis0 (f g : Nat → Int32) (i : Nat) : own_mis f g i 0 = -1 := rfl
theorem own_mis1 (f g : Nat → Int32) (i : Nat) : own_mis f g i 1 = if f (i + 0) = g 0 then -1 else 0 := rfl
theorem own_mis2 (f g : Nat → Int32) (i : Nat) : own_mis f g i 2 = if f (i + 0) = g 0 then (if f (i + 1) = g 1 then -1 else 1) else 0 := rfl
theorem own_mis3 (f g : Nat → Int32) (i : Nat) : own_mis f g i 3 = if f (i + 0) = g 0 then (if f (i + 1) = g 1 then (if f (i + 2) = g 2 then -1 else 2) else 1) else 0 := rfl
def own_eqv (f g : Nat → Int32) (i m : Nat) : Int32 := if own_mis f g i m < (0 : Int32) then 1 else 0
def own_mt (f g : Nat → Int32) (n m i : Nat) : Int32 := if n < i + m then 0 else own_eqv f g i m
/-- indexOf: k places left to try, from i on -/
def own_ix (f g : Nat → Int32) (m : Nat) : Nat → Nat → Int32
  | 0, _ => -1
  | k + 1, i => if own_eqv f g i m = (0 : Int32) then own_ix f g m k (i + 1) else Int32.ofNat i
theorem own_ix0 (f g : Nat → Int32) (m i : Nat) : own_ix f g m 0 i = -1 := rfl
theorem own_ixs (f g : Nat → Int32) (m k i : Nat) : own_ix f g m (k + 1) i = if own_eqv f g i m = (0 : Int32) then own_ix f g m k (i + 1) else Int32.ofNat i := rfl
theorem own_ixk (f g : Nat → Int32) (n m k : Nat) (hk : ¬ own_mt f g n m k = 0) : ∀ t i, n + 1 - (i + m) = t → i ≤ k → (∀ j, i ≤ j → j < k → own_mt f g n m j = 0) → own_ix f g m t i = Int32.ofNat k := by
  have hk' : ¬ n < k + m := fun y => hk (by unfold own_mt; rw [if_pos y])
  have hk2 : ¬ own_eqv f g k m = 0 := fun y => hk (by unfold own_mt; rw [if_neg hk']; exact y)
  intro t
  induction t with
  | zero => intro i h1 h2 _; exact absurd h1 (by omega)
  | succ t ih =>
    intro i h1 h2 h3
    rw [own_ixs]
    by_cases h : i = k
    · subst h; rw [if_neg hk2]
    · have h4 := h3 i (Nat.le_refl _) (by omega)
      unfold own_mt at h4
      rw [if_neg (by omega)] at h4
      rw [if_pos h4]
      exact ih (i + 1) (by omega) (by omega) fun j q1 q2 => h3 j (by omega) q2
theorem own_ixn (f g : Nat → Int32) (n m : Nat) : ∀ t i, n + 1 - (i + m) = t → (∀ j, i ≤ j → j ≤ n → own_mt f g n m j = 0) → own_ix f g m t i = -1 := by
  intro t
  induction t with
  | zero => intro i _ _; rfl
  | succ t ih =>
    intro i h1 h3
    rw [own_ixs]
    have h4 := h3 i (Nat.le_refl _) (by omega)
    unfold own_mt at h4
    rw [if_neg (by omega)] at h4
    rw [if_pos h4]
    exact ih (i + 1) (by omega) fun j q1 q2 => h3 j (by omega) q2
theorem pn_com_example_orbweaver_orbweaver_store_GzipMembersIndexOfPinLaw : plainName "com/example/orbweaver/orbweaver/store/GzipMembersIndexOfPinLaw" = true := by first | (simp [plainName, overriddenIn]; done) | decide +kernel
theorem ef_1 (m : MethodId) (p1 : Int32) (p2 : Int32) (p3 : Int32) (p4 : Int32) : entryFrame m #[(.int p1), (.int p2), (.int p3), (.int p4)] 4 = mkF m 0 #[.val (.int p1), .val (.int p2), .val (.int p3), .val (.int p4)] [] := by first | (simp [entryFrame, mkF, argsToLocals, Value.category]; done) | rfl
theorem d1_0 : decode method_3_code 0 = .ok (.iload_n 0, 1) := by decide +kernel
theorem d1_1 : decode method_3_code 1 = .ok (.iload_n 1, 1) := by decide +kernel
theorem d1_2 : decode method_3_code 2 = .ok (.iushr, 1) := by decide +kernel
theorem d1_3 : decode method_3_code 3 = .ok (.iconst 1, 1) := by decide +kernel
theorem d1_4 : decode method_3_code 4 = .ok (.iand, 1) := by decide +kernel
theorem d1_5 : decode method_3_code 5 = .ok (.ifCond .ne 7, 3) := by decide +kernel
theorem d1_8 : decode method_3_code 8 = .ok (.iload_n 2, 1) := by decide +kernel
theorem d1_9 : decode method_3_code 9 = .ok (.goto 4, 3) := by decide +kernel
theorem d1_13 : decode method_3_code 13 = .ok (.ireturn, 1) := by decide +kernel
theorem d1_12 : decode method_3_code 12 = .ok (.iload_n 3, 1) := by decide +kernel
def own_pk (p1 : Int32) (p2 : Int32) (p3 : Int32) (p4 : Int32) : Int32 := if (((p1.toUInt32 >>> (p2 &&& 31).toUInt32).toInt32) &&& (1 : Int32)) = (0 : Int32) then (nar .byte p3) else (nar .byte p4)
set_option maxRecDepth 65536 in
set_option maxHeartbeats 40000000 in
theorem rm1 (l : Launch) (Z : State) (a0 : Array Value) (hw : ∀ d ∈ tables_1, d.before a0 Z = true) (ws : List Jvm.Cond) (p1 : Int32) (p2 : Int32) (p3 : Int32) (p4 : Int32) (h0 : Heap) (n0 : Nat) (Z0 : n0 ≤ h0.size) :
    MetFree l (⟨"com/example/orbweaver/orbweaver/store/GzipMembersIndexOfPinLaw", "pick", "(IIBB)B"⟩ : MethodName) (head1 (Jvm.Cond.code (⟨"com/example/orbweaver/orbweaver/store/GzipMembersIndexOfPinLaw", "pick", "(IIBB)B"⟩ : MethodName) method_3_code 4 (some .byte) :: ws) ({ frames := 0, cells := 0, slots := 0, locals := 0 } : Room)) (fun a U => a = #[(.int p1), (.int p2), (.int p3), (.int p4)] ∧ Z.Warmed39 U.vm ∧ U.heap = h0) (fun _ _ _ _ _ => True) (fun _ U o U' => ∃ v L, o = .returned v ∧ QN (own_pk p1 p2 p3 p4) h0 n0 v U'.heap L ∧ FrameEnd U o U' L ({ frames := 0, cells := 0, slots := 0, locals := 0 } : Room).cells ({ frames := 0, cells := 0, slots := 0, locals := 0 } : Room).slots) := by
  refine MetFree.of_bodySF (plainFor_of_name pn_com_example_orbweaver_orbweaver_store_GzipMembersIndexOfPinLaw) hisR ?_
  intro p e s m args below meth c s₁ Bd hml0 hP hK
  obtain ⟨rfl, hZ, hh⟩ := hP
  have hx := Bd.exec
  have hby := Bd.bytes
  have hml : c.maxLocals = 4 := hml0
  have hown : s.vm.findClass "com/example/orbweaver/orbweaver/store/GzipMembersIndexOfPinLaw" = some m.cls := findClass_of_methodNamed Bd.named
  have hnm := (name_of_methodNamed Bd.named Bd.method).1
  have X0 : Stand p l e ({ frames := 0, cells := 0, slots := 0, locals := 0 } : Room) s m #[(.int p1), (.int p2), (.int p3), (.int p4)] below meth c s₁ [] 0 0 := Stand.of_body Bd
  have e0 : s₁.heap = h0 := by rw [← hh, Bd.state]; rfl
  have N0 := Fr.nil n0
  have pre0 : ∀ t, Steps p.tables e below (s₁.setTop (mkF m 0 #[.val (.int p1), .val (.int p2), .val (.int p3), .val (.int p4)] [])) t → Steps p.tables e below (s₁.setTop (entryFrame m #[(.int p1), (.int p2), (.int p3), (.int p4)] 4)) t := fun t k => castTop (ef_1 m p1 p2 p3 p4) k
  have q1 : ∀ t, Steps p.tables e below (s₁.setTop (mkF m 5 #[.val (.int p1), .val (.int p2), .val (.int p3), .val (.int p4)] [(.int (((p1.toUInt32 >>> (p2 &&& 31).toUInt32).toInt32) &&& (1 : Int32)))])) t → Steps p.tables e below (s₁.setTop (entryFrame m #[(.int p1), (.int p2), (.int p3), (.int p4)] 4)) t := fun t k => pre0 t (by
      show Steps p.tables e below (s₁.setTop (mkF m 0 #[.val (.int p1), .val (.int p2), .val (.int p3), .val (.int p4)] [])) _
      refine XS.iloadN X0.here hx rfl (hb hby d1_0) rfl ?_
      show Steps p.tables e below (s₁.setTop (mkF m 1 #[.val (.int p1), .val (.int p2), .val (.int p3), .val (.int p4)] [(.int p1)])) _
      refine XS.iloadN X0.here hx rfl (hb hby d1_1) rfl ?_
      show Steps p.tables e below (s₁.setTop (mkF m 2 #[.val (.int p1), .val (.int p2), .val (.int p3), .val (.int p4)] [(.int p2), (.int p1)])) _
      refine XS.iushr X0.here hx rfl (hb hby d1_2) rfl ?_
      show Steps p.tables e below (s₁.setTop (mkF m 3 #[.val (.int p1), .val (.int p2), .val (.int p3), .val (.int p4)] [(.int ((p1.toUInt32 >>> (p2 &&& 31).toUInt32).toInt32))])) _
      refine XS.iconst X0.here hx rfl (hb hby d1_3) ?_
      show Steps p.tables e below (s₁.setTop (mkF m 4 #[.val (.int p1), .val (.int p2), .val (.int p3), .val (.int p4)] [(.int (1 : Int32)), (.int ((p1.toUInt32 >>> (p2 &&& 31).toUInt32).toInt32))])) _
      refine XS.iand X0.here hx rfl (hb hby d1_4) rfl ?_
      show Steps p.tables e below (s₁.setTop (mkF m 5 #[.val (.int p1), .val (.int p2), .val (.int p3), .val (.int p4)] [(.int (((p1.toUInt32 >>> (p2 &&& 31).toUInt32).toInt32) &&& (1 : Int32)))])) _
      exact k)
  by_cases k2 : (((p1.toUInt32 >>> (p2 &&& 31).toUInt32).toInt32) &&& (1 : Int32)) = (0 : Int32)
  · skip
    have q3 : ∀ t, Steps p.tables e below (s₁.setTop (mkF m 13 #[.val (.int p1), .val (.int p2), .val (.int p3), .val (.int p4)] [(.int p3)])) t → Steps p.tables e below (s₁.setTop (entryFrame m #[(.int p1), (.int p2), (.int p3), (.int p4)] 4)) t := fun t k => q1 t (by
        show Steps p.tables e below (s₁.setTop (mkF m 5 #[.val (.int p1), .val (.int p2), .val (.int p3), .val (.int p4)] [(.int (((p1.toUInt32 >>> (p2 &&& 31).toUInt32).toInt32) &&& (1 : Int32)))])) _
        refine XS.ifNo X0.here hx rfl (hb hby d1_5) rfl (XT.i0_ne_f (k2 : (((p1.toUInt32 >>> (p2 &&& 31).toUInt32).toInt32) &&& (1 : Int32)) = (0 : Int32))) ?_
        show Steps p.tables e below (s₁.setTop (mkF m 8 #[.val (.int p1), .val (.int p2), .val (.int p3), .val (.int p4)] [])) _
        refine XS.iloadN X0.here hx rfl (hb hby d1_8) rfl ?_
        show Steps p.tables e below (s₁.setTop (mkF m 9 #[.val (.int p1), .val (.int p2), .val (.int p3), .val (.int p4)] [(.int p3)])) _
        refine XS.goto X0.here hx rfl (pc0 := 9) (pc' := 13) rfl (hb hby d1_9) (by decide) (by decide) ?_
        show Steps p.tables e below (s₁.setTop (mkF m 13 #[.val (.int p1), .val (.int p2), .val (.int p3), .val (.int p4)] [(.int p3)])) _
        exact k)
    obtain ⟨fs, hr, hrun, hended, hW, hsame⟩ := X0.leave (v := some (.int (nar .byte p3))) (fun h => by rw [Bd.returns] at h; cases h)
    refine ⟨_, _, q3 _ ?_, hrun, hended, _, _, rfl, ?_, ⟨_, rfl⟩, hW, hsame.mono (by decide) (by decide)⟩
    · show Steps p.tables e below (s₁.setTop (mkF m 13 #[.val (.int p1), .val (.int p2), .val (.int p3), .val (.int p4)] [(.int p3)])) _
      exact retN X0 hx (t := .byte) Bd.returns (by simp) (hb hby d1_13) hr
    · show QN (own_pk p1 p2 p3 p4) h0 n0 _ s₁.heap _
      exact ⟨by unfold own_pk; rw [if_pos k2], N0, e0⟩
  · skip
    have q4 : ∀ t, Steps p.tables e below (s₁.setTop (mkF m 13 #[.val (.int p1), .val (.int p2), .val (.int p3), .val (.int p4)] [(.int p4)])) t → Steps p.tables e below (s₁.setTop (entryFrame m #[(.int p1), (.int p2), (.int p3), (.int p4)] 4)) t := fun t k => q1 t (by
        show Steps p.tables e below (s₁.setTop (mkF m 5 #[.val (.int p1), .val (.int p2), .val (.int p3), .val (.int p4)] [(.int (((p1.toUInt32 >>> (p2 &&& 31).toUInt32).toInt32) &&& (1 : Int32)))])) _
        refine XS.ifYes X0.here hx rfl (pc0 := 5) (pc' := 12) rfl (hb hby d1_5) rfl (XT.i0_ne_t (k2 : ¬ ((((p1.toUInt32 >>> (p2 &&& 31).toUInt32).toInt32) &&& (1 : Int32)) = (0 : Int32)))) (by decide) (by decide) ?_
        show Steps p.tables e below (s₁.setTop (mkF m 12 #[.val (.int p1), .val (.int p2), .val (.int p3), .val (.int p4)] [])) _
        refine XS.iloadN X0.here hx rfl (hb hby d1_12) rfl ?_
        show Steps p.tables e below (s₁.setTop (mkF m 13 #[.val (.int p1), .val (.int p2), .val (.int p3), .val (.int p4)] [(.int p4)])) _
        exact k)
    obtain ⟨fs, hr, hrun, hended, hW, hsame⟩ := X0.leave (v := some (.int (nar .byte p4))) (fun h => by rw [Bd.returns] at h; cases h)
    refine ⟨_, _, q4 _ ?_, hrun, hended, _, _, rfl, ?_, ⟨_, rfl⟩, hW, hsame.mono (by decide) (by decide)⟩
    · show Steps p.tables e below (s₁.setTop (mkF m 13 #[.val (.int p1), .val (.int p2), .val (.int p3), .val (.int p4)] [(.int p4)])) _
      exact retN X0 hx (t := .byte) Bd.returns (by simp) (hb hby d1_13) hr
    · show QN (own_pk p1 p2 p3 p4) h0 n0 _ s₁.heap _
      exact ⟨by unfold own_pk; rw [if_neg k2], N0, e0⟩
theorem pn_java_util_Arrays : plainName "java/util/Arrays" = true := by first | (simp [plainName, overriddenIn]; done) | decide +kernel
theorem ef_2 (m : MethodId) (p1 : Int32) (p2 : Int32) (p3 : Int32) : entryFrame m #[(.int p1), (.int p2), (.int p3)] 3 = mkF m 0 #[.val (.int p1), .val (.int p2), .val (.int p3)] [] := by first | (simp [entryFrame, mkF, argsToLocals, Value.category]; done) | rfl
theorem d2_0 : decode jdk_65_method_30_code 0 = .ok (.iload_n 1, 1) := by decide +kernel
theorem d2_1 : decode jdk_65_method_30_code 1 = .ok (.iload_n 2, 1) := by decide +kernel
theorem d2_2 : decode jdk_65_method_30_code 2 = .ok (.if_icmp .le 44, 3) := by decide +kernel
theorem d2_46 : decode jdk_65_method_30_code 46 = .ok (.iload_n 1, 1) := by decide +kernel
theorem d2_47 : decode jdk_65_method_30_code 47 = .ok (.ifCond .ge 12, 3) := by decide +kernel
theorem d2_59 : decode jdk_65_method_30_code 59 = .ok (.iload_n 2, 1) := by decide +kernel
theorem d2_60 : decode jdk_65_method_30_code 60 = .ok (.iload_n 0, 1) := by decide +kernel
theorem d2_61 : decode jdk_65_method_30_code 61 = .ok (.if_icmp .le 12, 3) := by decide +kernel
theorem d2_73 : decode jdk_65_method_30_code 73 = .ok (.return_, 1) := by decide +kernel
set_option maxRecDepth 65536 in
set_option maxHeartbeats 40000000 in
theorem rm2 (l : Launch) (Z : State) (a0 : Array Value) (hw : ∀ d ∈ tables_1, d.before a0 Z = true) (ws : List Jvm.Cond) (p1 : Int32) (p2 : Int32) (p3 : Int32) (h0 : Heap) (n0 : Nat) (Z0 : n0 ≤ h0.size) (h1 : ¬ p3 < p2) (h2 : ¬ p2 < (0 : Int32)) (h3 : ¬ p1 < p3) :
    MetFree l (⟨"java/util/Arrays", "rangeCheck", "(III)V"⟩ : MethodName) (head1 (Jvm.Cond.code (⟨"java/util/Arrays", "rangeCheck", "(III)V"⟩ : MethodName) jdk_65_method_30_code 3 (none) :: ws) ({ frames := 0, cells := 0, slots := 0, locals := 0 } : Room)) (fun a U => a = #[(.int p1), (.int p2), (.int p3)] ∧ Z.Warmed39 U.vm ∧ U.heap = h0) (fun _ _ _ _ _ => True) (fun _ U o U' => ∃ v L, o = .returned v ∧ QV h0 n0 v U'.heap L ∧ FrameEnd U o U' L ({ frames := 0, cells := 0, slots := 0, locals := 0 } : Room).cells ({ frames := 0, cells := 0, slots := 0, locals := 0 } : Room).slots) := by
  refine MetFree.of_bodySF (plainFor_of_name pn_java_util_Arrays) hisR ?_
  intro p e s m args below meth c s₁ Bd hml0 hP hK
  obtain ⟨rfl, hZ, hh⟩ := hP
  have hx := Bd.exec
  have hby := Bd.bytes
  have hml : c.maxLocals = 3 := hml0
  have hown : s.vm.findClass "java/util/Arrays" = some m.cls := findClass_of_methodNamed Bd.named
  have hnm := (name_of_methodNamed Bd.named Bd.method).1
  have X0 : Stand p l e ({ frames := 0, cells := 0, slots := 0, locals := 0 } : Room) s m #[(.int p1), (.int p2), (.int p3)] below meth c s₁ [] 0 0 := Stand.of_body Bd
  have e0 : s₁.heap = h0 := by rw [← hh, Bd.state]; rfl
  have N0 := Fr.nil n0
  have pre0 : ∀ t, Steps p.tables e below (s₁.setTop (mkF m 0 #[.val (.int p1), .val (.int p2), .val (.int p3)] [])) t → Steps p.tables e below (s₁.setTop (entryFrame m #[(.int p1), (.int p2), (.int p3)] 3)) t := fun t k => castTop (ef_2 m p1 p2 p3) k
  have q5 : ∀ t, Steps p.tables e below (s₁.setTop (mkF m 73 #[.val (.int p1), .val (.int p2), .val (.int p3)] [])) t → Steps p.tables e below (s₁.setTop (entryFrame m #[(.int p1), (.int p2), (.int p3)] 3)) t := fun t k => pre0 t (by
      show Steps p.tables e below (s₁.setTop (mkF m 0 #[.val (.int p1), .val (.int p2), .val (.int p3)] [])) _
      refine XS.iloadN X0.here hx rfl (hb hby d2_0) rfl ?_
      show Steps p.tables e below (s₁.setTop (mkF m 1 #[.val (.int p1), .val (.int p2), .val (.int p3)] [(.int p2)])) _
      refine XS.iloadN X0.here hx rfl (hb hby d2_1) rfl ?_
      show Steps p.tables e below (s₁.setTop (mkF m 2 #[.val (.int p1), .val (.int p2), .val (.int p3)] [(.int p3), (.int p2)])) _
      refine XS.icmpYes X0.here hx rfl (pc0 := 2) (pc' := 46) rfl (hb hby d2_2) rfl (XT.ii_le_t (h1 : ¬ (p3 < p2))) (by decide) (by decide) ?_
      show Steps p.tables e below (s₁.setTop (mkF m 46 #[.val (.int p1), .val (.int p2), .val (.int p3)] [])) _
      refine XS.iloadN X0.here hx rfl (hb hby d2_46) rfl ?_
      show Steps p.tables e below (s₁.setTop (mkF m 47 #[.val (.int p1), .val (.int p2), .val (.int p3)] [(.int p2)])) _
      refine XS.ifYes X0.here hx rfl (pc0 := 47) (pc' := 59) rfl (hb hby d2_47) rfl (XT.i0_ge_t (h2 : ¬ (p2 < (0 : Int32)))) (by decide) (by decide) ?_
      show Steps p.tables e below (s₁.setTop (mkF m 59 #[.val (.int p1), .val (.int p2), .val (.int p3)] [])) _
      refine XS.iloadN X0.here hx rfl (hb hby d2_59) rfl ?_
      show Steps p.tables e below (s₁.setTop (mkF m 60 #[.val (.int p1), .val (.int p2), .val (.int p3)] [(.int p3)])) _
      refine XS.iloadN X0.here hx rfl (hb hby d2_60) rfl ?_
      show Steps p.tables e below (s₁.setTop (mkF m 61 #[.val (.int p1), .val (.int p2), .val (.int p3)] [(.int p1), (.int p3)])) _
      refine XS.icmpYes X0.here hx rfl (pc0 := 61) (pc' := 73) rfl (hb hby d2_61) rfl (XT.ii_le_t (h3 : ¬ (p1 < p3))) (by decide) (by decide) ?_
      show Steps p.tables e below (s₁.setTop (mkF m 73 #[.val (.int p1), .val (.int p2), .val (.int p3)] [])) _
      exact k)
  obtain ⟨fs, hr, hrun, hended, hW, hsame⟩ := X0.leave (v := none) (fun _ => rfl)
  refine ⟨_, _, q5 _ ?_, hrun, hended, _, _, rfl, ?_, ⟨_, rfl⟩, hW, hsame.mono (by decide) (by decide)⟩
  · show Steps p.tables e below (s₁.setTop (mkF m 73 #[.val (.int p1), .val (.int p2), .val (.int p3)] [])) _
    exact X0.returnOut hx Bd.returns (hb hby d2_73) hr
  · show QV h0 n0 _ s₁.heap _
    exact ⟨rfl, N0, e0⟩
theorem pn_jdk_internal_util_ArraysSupport : plainName "jdk/internal/util/ArraysSupport" = true := by first | (simp [plainName, overriddenIn]; done) | decide +kernel
theorem ef_3 (m : MethodId) (x0 : Addr) (x1 : Int32) (x2 : Addr) (x3 : Int32) (x4 : Int32) : entryFrame m #[(.ref x0), (.int x1), (.ref x2), (.int x3), (.int x4)] 8 = mkF m 0 #[.val (.ref x0), .val (.int x1), .val (.ref x2), .val (.int x3), .val (.int x4), .unset, .unset, .unset] [] := by first | (simp [entryFrame, mkF, argsToLocals, Value.category]; done) | rfl
theorem d3_0 : decode jdk_48_method_14_code 0 = .ok (.iconst 0, 1) := by decide +kernel
theorem d3_1 : decode jdk_48_method_14_code 1 = .ok (.istore 5, 2) := by decide +kernel
theorem d3_3 : decode jdk_48_method_14_code 3 = .ok (.iload 4, 2) := by decide +kernel
theorem d3_5 : decode jdk_48_method_14_code 5 = .ok (.bipush 7, 2) := by decide +kernel
theorem d3_7 : decode jdk_48_method_14_code 7 = .ok (.if_icmp .le 63, 3) := by decide +kernel
theorem d3_70 : decode jdk_48_method_14_code 70 = .ok (.iload 5, 2) := by decide +kernel
theorem d3_72 : decode jdk_48_method_14_code 72 = .ok (.iload 4, 2) := by decide +kernel
theorem d3_74 : decode jdk_48_method_14_code 74 = .ok (.if_icmp .ge 27, 3) := by decide +kernel
theorem d3_101 : decode jdk_48_method_14_code 101 = .ok (.iconst (-1), 1) := by decide +kernel
theorem d3_102 : decode jdk_48_method_14_code 102 = .ok (.ireturn, 1) := by decide +kernel
theorem d3_77 : decode jdk_48_method_14_code 77 = .ok (.aload_n 0, 1) := by decide +kernel
theorem d3_78 : decode jdk_48_method_14_code 78 = .ok (.iload_n 1, 1) := by decide +kernel
theorem d3_79 : decode jdk_48_method_14_code 79 = .ok (.iload 5, 2) := by decide +kernel
theorem d3_81 : decode jdk_48_method_14_code 81 = .ok (.iadd, 1) := by decide +kernel
theorem d3_82 : decode jdk_48_method_14_code 82 = .ok (.baload, 1) := by decide +kernel
theorem d3_83 : decode jdk_48_method_14_code 83 = .ok (.aload_n 2, 1) := by decide +kernel
theorem d3_84 : decode jdk_48_method_14_code 84 = .ok (.iload_n 3, 1) := by decide +kernel
theorem d3_85 : decode jdk_48_method_14_code 85 = .ok (.iload 5, 2) := by decide +kernel
theorem d3_87 : decode jdk_48_method_14_code 87 = .ok (.iadd, 1) := by decide +kernel
theorem d3_88 : decode jdk_48_method_14_code 88 = .ok (.baload, 1) := by decide +kernel
theorem d3_89 : decode jdk_48_method_14_code 89 = .ok (.if_icmp .eq 6, 3) := by decide +kernel
theorem d3_95 : decode jdk_48_method_14_code 95 = .ok (.iinc 5 1, 3) := by decide +kernel
theorem d3_98 : decode jdk_48_method_14_code 98 = .ok (.goto (-28), 3) := by decide +kernel
theorem d3_92 : decode jdk_48_method_14_code 92 = .ok (.iload 5, 2) := by decide +kernel
theorem d3_94 : decode jdk_48_method_14_code 94 = .ok (.ireturn, 1) := by decide +kernel
set_option maxRecDepth 65536 in
set_option maxHeartbeats 40000000 in
theorem rm3 (l : Launch) (Z : State) (a0 : Array Value) (hw : ∀ d ∈ tables_1, d.before a0 Z = true) (ws : List Jvm.Cond) (a1 a2 : Addr) (n mm i : Nat) (hn : n ≤ 7) (hm : mm ≤ 3) (f g : Nat → Int32) (cl1 cl2 : Cell) (h0 : Heap) (n0 : Nat) (Z0 : n0 ≤ h0.size) (hi : i + mm ≤ n) (Ar1 : Arr Z h0 a1 cl1 .byte) (S1 : cl1.slots.size = n) (H1 : ∀ i, i < cl1.slots.size → cl1.slots[i]? = some (.int (f i))) (Ar2 : Arr Z h0 a2 cl2 .byte) (S2 : cl2.slots.size = mm) (H2 : ∀ i, i < cl2.slots.size → cl2.slots[i]? = some (.int (g i))) :
    MetFree l (⟨"jdk/internal/util/ArraysSupport", "mismatch", "([BI[BII)I"⟩ : MethodName) (head1 (Jvm.Cond.code (⟨"jdk/internal/util/ArraysSupport", "mismatch", "([BI[BII)I"⟩ : MethodName) jdk_48_method_14_code 8 (some .int) :: ws) ({ frames := 0, cells := 0, slots := 0, locals := 0 } : Room)) (fun a U => a = #[(.ref a1), (.int (Int32.ofNat i)), (.ref a2), (.int (0 : Int32)), (.int (Int32.ofNat mm))] ∧ Z.Warmed39 U.vm ∧ U.heap = h0) (fun _ _ _ _ _ => True) (fun _ U o U' => ∃ v L, o = .returned v ∧ QN (own_mis f g i mm) h0 n0 v U'.heap L ∧ FrameEnd U o U' L ({ frames := 0, cells := 0, slots := 0, locals := 0 } : Room).cells ({ frames := 0, cells := 0, slots := 0, locals := 0 } : Room).slots) := by
  refine MetFree.of_bodySF (plainFor_of_name pn_jdk_internal_util_ArraysSupport) hisR ?_
  intro p e s m args below meth c s₁ Bd hml0 hP hK
  obtain ⟨rfl, hZ, hh⟩ := hP
  have hx := Bd.exec
  have hby := Bd.bytes
  have hml : c.maxLocals = 8 := hml0
  have hown : s.vm.findClass "jdk/internal/util/ArraysSupport" = some m.cls := findClass_of_methodNamed Bd.named
  have hnm := (name_of_methodNamed Bd.named Bd.method).1
  have X0 : Stand p l e ({ frames := 0, cells := 0, slots := 0, locals := 0 } : Room) s m #[(.ref a1), (.int (Int32.ofNat i)), (.ref a2), (.int (0 : Int32)), (.int (Int32.ofNat mm))] below meth c s₁ [] 0 0 := Stand.of_body Bd
  have e0 : s₁.heap = h0 := by rw [← hh, Bd.state]; rfl
  have N0 := Fr.nil n0
  have pre0 : ∀ t, Steps p.tables e below (s₁.setTop (mkF m 0 #[.val (.ref a1), .val (.int (Int32.ofNat i)), .val (.ref a2), .val (.int (0 : Int32)), .val (.int (Int32.ofNat mm)), .unset, .unset, .unset] [])) t → Steps p.tables e below (s₁.setTop (entryFrame m #[(.ref a1), (.int (Int32.ofNat i)), (.ref a2), (.int (0 : Int32)), (.int (Int32.ofNat mm))] 8)) t := fun t k => castTop (ef_3 m a1 (Int32.ofNat i) a2 (0 : Int32) (Int32.ofNat mm)) k
  have S1' : cl1.slots.size = (Int32.ofNat n).toNatClampNeg := by rw [own_n32 (by omega)]; exact S1
  have M1' : ¬ Int32.ofNat n < 0 := own_neg (by omega)
  have hm' : mm = 0 ∨ mm = 1 ∨ mm = 2 ∨ mm = 3 := by omega
  rcases hm' with rfl | rfl | rfl | rfl
  · skip
    have S2' : cl2.slots.size = (Int32.ofNat 0).toNatClampNeg := by rw [own_n32 (by omega)]; exact S2
    have M2' : ¬ Int32.ofNat 0 < 0 := own_neg (by omega)
    have q6 : ∀ t, Steps p.tables e below (s₁.setTop (mkF m 102 #[.val (.ref a1), .val (.int (Int32.ofNat i)), .val (.ref a2), .val (.int (0 : Int32)), .val (.int (Int32.ofNat 0)), .val (.int (0 : Int32)), .unset, .unset] [(.int (-1 : Int32))])) t → Steps p.tables e below (s₁.setTop (entryFrame m #[(.ref a1), (.int (Int32.ofNat i)), (.ref a2), (.int (0 : Int32)), (.int (Int32.ofNat 0))] 8)) t := fun t k => pre0 t (by
        show Steps p.tables e below (s₁.setTop (mkF m 0 #[.val (.ref a1), .val (.int (Int32.ofNat i)), .val (.ref a2), .val (.int (0 : Int32)), .val (.int (Int32.ofNat 0)), .unset, .unset, .unset] [])) _
        refine XS.iconst X0.here hx rfl (hb hby d3_0) ?_
        show Steps p.tables e below (s₁.setTop (mkF m 1 #[.val (.ref a1), .val (.int (Int32.ofNat i)), .val (.ref a2), .val (.int (0 : Int32)), .val (.int (Int32.ofNat 0)), .unset, .unset, .unset] [(.int (0 : Int32))])) _
        refine XS.istore X0.here hx rfl (hb hby d3_1) rfl (l' := #[.val (.ref a1), .val (.int (Int32.ofNat i)), .val (.ref a2), .val (.int (0 : Int32)), .val (.int (Int32.ofNat 0)), .val (.int (0 : Int32)), .unset, .unset]) rfl ?_
        show Steps p.tables e below (s₁.setTop (mkF m 3 #[.val (.ref a1), .val (.int (Int32.ofNat i)), .val (.ref a2), .val (.int (0 : Int32)), .val (.int (Int32.ofNat 0)), .val (.int (0 : Int32)), .unset, .unset] [])) _
        refine XS.iload X0.here hx rfl (hb hby d3_3) rfl ?_
        show Steps p.tables e below (s₁.setTop (mkF m 5 #[.val (.ref a1), .val (.int (Int32.ofNat i)), .val (.ref a2), .val (.int (0 : Int32)), .val (.int (Int32.ofNat 0)), .val (.int (0 : Int32)), .unset, .unset] [(.int (Int32.ofNat 0))])) _
        refine XS.bipush X0.here hx rfl (hb hby d3_5) ?_
        show Steps p.tables e below (s₁.setTop (mkF m 7 #[.val (.ref a1), .val (.int (Int32.ofNat i)), .val (.ref a2), .val (.int (0 : Int32)), .val (.int (Int32.ofNat 0)), .val (.int (0 : Int32)), .unset, .unset] [(.int (7 : Int32)), (.int (Int32.ofNat 0))])) _
        refine XS.icmpYes X0.here hx rfl (pc0 := 7) (pc' := 70) rfl (hb hby d3_7) rfl (XT.ii_le_t (by decide : ¬ ((7 : Int32) < (Int32.ofNat 0)))) (by decide) (by decide) ?_
        show Steps p.tables e below (s₁.setTop (mkF m 70 #[.val (.ref a1), .val (.int (Int32.ofNat i)), .val (.ref a2), .val (.int (0 : Int32)), .val (.int (Int32.ofNat 0)), .val (.int (0 : Int32)), .unset, .unset] [])) _
        refine XS.iload X0.here hx rfl (hb hby d3_70) rfl ?_
        show Steps p.tables e below (s₁.setTop (mkF m 72 #[.val (.ref a1), .val (.int (Int32.ofNat i)), .val (.ref a2), .val (.int (0 : Int32)), .val (.int (Int32.ofNat 0)), .val (.int (0 : Int32)), .unset, .unset] [(.int (0 : Int32))])) _
        refine XS.iload X0.here hx rfl (hb hby d3_72) rfl ?_
        show Steps p.tables e below (s₁.setTop (mkF m 74 #[.val (.ref a1), .val (.int (Int32.ofNat i)), .val (.ref a2), .val (.int (0 : Int32)), .val (.int (Int32.ofNat 0)), .val (.int (0 : Int32)), .unset, .unset] [(.int (Int32.ofNat 0)), (.int (0 : Int32))])) _
        refine XS.icmpYes X0.here hx rfl (pc0 := 74) (pc' := 101) rfl (hb hby d3_74) rfl (XT.ii_ge_t (by decide : ¬ ((0 : Int32) < (Int32.ofNat 0)))) (by decide) (by decide) ?_
        show Steps p.tables e below (s₁.setTop (mkF m 101 #[.val (.ref a1), .val (.int (Int32.ofNat i)), .val (.ref a2), .val (.int (0 : Int32)), .val (.int (Int32.ofNat 0)), .val (.int (0 : Int32)), .unset, .unset] [])) _
        refine XS.iconst X0.here hx rfl (hb hby d3_101) ?_
        show Steps p.tables e below (s₁.setTop (mkF m 102 #[.val (.ref a1), .val (.int (Int32.ofNat i)), .val (.ref a2), .val (.int (0 : Int32)), .val (.int (Int32.ofNat 0)), .val (.int (0 : Int32)), .unset, .unset] [(.int (-1 : Int32))])) _
        exact k)
    obtain ⟨fs, hr, hrun, hended, hW, hsame⟩ := X0.leave (v := some (.int (-1 : Int32))) (fun h => by rw [Bd.returns] at h; cases h)
    refine ⟨_, _, q6 _ ?_, hrun, hended, _, _, rfl, ?_, ⟨_, rfl⟩, hW, hsame.mono (by decide) (by decide)⟩
    · show Steps p.tables e below (s₁.setTop (mkF m 102 #[.val (.ref a1), .val (.int (Int32.ofNat i)), .val (.ref a2), .val (.int (0 : Int32)), .val (.int (Int32.ofNat 0)), .val (.int (0 : Int32)), .unset, .unset] [(.int (-1 : Int32))])) _
      exact retI X0 hx Bd.returns (hb hby d3_102) hr
    · show QN (own_mis f g i 0) h0 n0 _ s₁.heap _
      exact ⟨by rw [own_mis0], N0, e0⟩
  · skip
    have S2' : cl2.slots.size = (Int32.ofNat 1).toNatClampNeg := by rw [own_n32 (by omega)]; exact S2
    have M2' : ¬ Int32.ofNat 1 < 0 := own_neg (by omega)
    have q7 : ∀ t, Steps p.tables e below (s₁.setTop (mkF m 82 #[.val (.ref a1), .val (.int (Int32.ofNat i)), .val (.ref a2), .val (.int (0 : Int32)), .val (.int (Int32.ofNat 1)), .val (.int (0 : Int32)), .unset, .unset] [(.int ((Int32.ofNat i) + (0 : Int32))), (.ref a1)])) t → Steps p.tables e below (s₁.setTop (entryFrame m #[(.ref a1), (.int (Int32.ofNat i)), (.ref a2), (.int (0 : Int32)), (.int (Int32.ofNat 1))] 8)) t := fun t k => pre0 t (by
        show Steps p.tables e below (s₁.setTop (mkF m 0 #[.val (.ref a1), .val (.int (Int32.ofNat i)), .val (.ref a2), .val (.int (0 : Int32)), .val (.int (Int32.ofNat 1)), .unset, .unset, .unset] [])) _
        refine XS.iconst X0.here hx rfl (hb hby d3_0) ?_
        show Steps p.tables e below (s₁.setTop (mkF m 1 #[.val (.ref a1), .val (.int (Int32.ofNat i)), .val (.ref a2), .val (.int (0 : Int32)), .val (.int (Int32.ofNat 1)), .unset, .unset, .unset] [(.int (0 : Int32))])) _
        refine XS.istore X0.here hx rfl (hb hby d3_1) rfl (l' := #[.val (.ref a1), .val (.int (Int32.ofNat i)), .val (.ref a2), .val (.int (0 : Int32)), .val (.int (Int32.ofNat 1)), .val (.int (0 : Int32)), .unset, .unset]) rfl ?_
        show Steps p.tables e below (s₁.setTop (mkF m 3 #[.val (.ref a1), .val (.int (Int32.ofNat i)), .val (.ref a2), .val (.int (0 : Int32)), .val (.int (Int32.ofNat 1)), .val (.int (0 : Int32)), .unset, .unset] [])) _
        refine XS.iload X0.here hx rfl (hb hby d3_3) rfl ?_
        show Steps p.tables e below (s₁.setTop (mkF m 5 #[.val (.ref a1), .val (.int (Int32.ofNat i)), .val (.ref a2), .val (.int (0 : Int32)), .val (.int (Int32.ofNat 1)), .val (.int (0 : Int32)), .unset, .unset] [(.int (Int32.ofNat 1))])) _
        refine XS.bipush X0.here hx rfl (hb hby d3_5) ?_
        show Steps p.tables e below (s₁.setTop (mkF m 7 #[.val (.ref a1), .val (.int (Int32.ofNat i)), .val (.ref a2), .val (.int (0 : Int32)), .val (.int (Int32.ofNat 1)), .val (.int (0 : Int32)), .unset, .unset] [(.int (7 : Int32)), (.int (Int32.ofNat 1))])) _
        refine XS.icmpYes X0.here hx rfl (pc0 := 7) (pc' := 70) rfl (hb hby d3_7) rfl (XT.ii_le_t (by decide : ¬ ((7 : Int32) < (Int32.ofNat 1)))) (by decide) (by decide) ?_
        show Steps p.tables e below (s₁.setTop (mkF m 70 #[.val (.ref a1), .val (.int (Int32.ofNat i)), .val (.ref a2), .val (.int (0 : Int32)), .val (.int (Int32.ofNat 1)), .val (.int (0 : Int32)), .unset, .unset] [])) _
        refine XS.iload X0.here hx rfl (hb hby d3_70) rfl ?_
        show Steps p.tables e below (s₁.setTop (mkF m 72 #[.val (.ref a1), .val (.int (Int32.ofNat i)), .val (.ref a2), .val (.int (0 : Int32)), .val (.int (Int32.ofNat 1)), .val (.int (0 : Int32)), .unset, .unset] [(.int (0 : Int32))])) _
        refine XS.iload X0.here hx rfl (hb hby d3_72) rfl ?_
        show Steps p.tables e below (s₁.setTop (mkF m 74 #[.val (.ref a1), .val (.int (Int32.ofNat i)), .val (.ref a2), .val (.int (0 : Int32)), .val (.int (Int32.ofNat 1)), .val (.int (0 : Int32)), .unset, .unset] [(.int (Int32.ofNat 1)), (.int (0 : Int32))])) _
        refine XS.icmpNo X0.here hx rfl (hb hby d3_74) rfl (XT.ii_ge_f (by decide : (0 : Int32) < (Int32.ofNat 1))) ?_
        show Steps p.tables e below (s₁.setTop (mkF m 77 #[.val (.ref a1), .val (.int (Int32.ofNat i)), .val (.ref a2), .val (.int (0 : Int32)), .val (.int (Int32.ofNat 1)), .val (.int (0 : Int32)), .unset, .unset] [])) _
        refine XS.aloadN X0.here hx rfl (hb hby d3_77) rfl rfl ?_
        show Steps p.tables e below (s₁.setTop (mkF m 78 #[.val (.ref a1), .val (.int (Int32.ofNat i)), .val (.ref a2), .val (.int (0 : Int32)), .val (.int (Int32.ofNat 1)), .val (.int (0 : Int32)), .unset, .unset] [(.ref a1)])) _
        refine XS.iloadN X0.here hx rfl (hb hby d3_78) rfl ?_
        show Steps p.tables e below (s₁.setTop (mkF m 79 #[.val (.ref a1), .val (.int (Int32.ofNat i)), .val (.ref a2), .val (.int (0 : Int32)), .val (.int (Int32.ofNat 1)), .val (.int (0 : Int32)), .unset, .unset] [(.int (Int32.ofNat i)), (.ref a1)])) _
        refine XS.iload X0.here hx rfl (hb hby d3_79) rfl ?_
        show Steps p.tables e below (s₁.setTop (mkF m 81 #[.val (.ref a1), .val (.int (Int32.ofNat i)), .val (.ref a2), .val (.int (0 : Int32)), .val (.int (Int32.ofNat 1)), .val (.int (0 : Int32)), .unset, .unset] [(.int (0 : Int32)), (.int (Int32.ofNat i)), (.ref a1)])) _
        refine XS.iadd X0.here hx rfl (hb hby d3_81) rfl ?_
        show Steps p.tables e below (s₁.setTop (mkF m 82 #[.val (.ref a1), .val (.int (Int32.ofNat i)), .val (.ref a2), .val (.int (0 : Int32)), .val (.int (Int32.ofNat 1)), .val (.int (0 : Int32)), .unset, .unset] [(.int ((Int32.ofNat i) + (0 : Int32))), (.ref a1)])) _
        exact k)
    have q8 : ∀ t, Steps p.tables e below (s₁.setTop (mkF m 82 #[.val (.ref a1), .val (.int (Int32.ofNat i)), .val (.ref a2), .val (.int (0 : Int32)), .val (.int (Int32.ofNat 1)), .val (.int (0 : Int32)), .unset, .unset] [(.int (Int32.ofNat (i + 0))), (.ref a1)])) t → Steps p.tables e below (s₁.setTop (entryFrame m #[(.ref a1), (.int (Int32.ofNat i)), (.ref a2), (.int (0 : Int32)), (.int (Int32.ofNat 1))] 8)) t := fun t k => q7 t (by rw [show ((Int32.ofNat i) + (0 : Int32)) = (Int32.ofNat (i + 0)) from (own_zero i).symm]; exact k)
    have q9 : ∀ t, Steps p.tables e below (s₁.setTop (mkF m 88 #[.val (.ref a1), .val (.int (Int32.ofNat i)), .val (.ref a2), .val (.int (0 : Int32)), .val (.int (Int32.ofNat 1)), .val (.int (0 : Int32)), .unset, .unset] [(.int ((0 : Int32) + (0 : Int32))), (.ref a2), (.int (f (i + 0)))])) t → Steps p.tables e below (s₁.setTop (entryFrame m #[(.ref a1), (.int (Int32.ofNat i)), (.ref a2), (.int (0 : Int32)), (.int (Int32.ofNat 1))] 8)) t := fun t k => q8 t (by
        show Steps p.tables e below (s₁.setTop (mkF m 82 #[.val (.ref a1), .val (.int (Int32.ofNat i)), .val (.ref a2), .val (.int (0 : Int32)), .val (.int (Int32.ofNat 1)), .val (.int (0 : Int32)), .unset, .unset] [(.int (Int32.ofNat (i + 0))), (.ref a1)])) _
        refine X0.baloadBytes hx (j := (Int32.ofNat (i + 0))) (v := (.int (f (i + 0)))) (by rw [e0]; exact Ar1.1) (State.isArrayOf_alike hZ.alike Ar1.2.1) Ar1.2.2 (own_in S1 (by omega) (by omega)) (own_hat S1 H1 (by omega) (by omega)) (g := (mkF m 82 #[.val (.ref a1), .val (.int (Int32.ofNat i)), .val (.ref a2), .val (.int (0 : Int32)), .val (.int (Int32.ofNat 1)), .val (.int (0 : Int32)), .unset, .unset] [(.int (Int32.ofNat (i + 0))), (.ref a1)])) rfl rfl (hb hby d3_82) _ ?_
        show Steps p.tables e below (s₁.setTop (mkF m 83 #[.val (.ref a1), .val (.int (Int32.ofNat i)), .val (.ref a2), .val (.int (0 : Int32)), .val (.int (Int32.ofNat 1)), .val (.int (0 : Int32)), .unset, .unset] [(.int (f (i + 0)))])) _
        refine XS.aloadN X0.here hx rfl (hb hby d3_83) rfl rfl ?_
        show Steps p.tables e below (s₁.setTop (mkF m 84 #[.val (.ref a1), .val (.int (Int32.ofNat i)), .val (.ref a2), .val (.int (0 : Int32)), .val (.int (Int32.ofNat 1)), .val (.int (0 : Int32)), .unset, .unset] [(.ref a2), (.int (f (i + 0)))])) _
        refine XS.iloadN X0.here hx rfl (hb hby d3_84) rfl ?_
        show Steps p.tables e below (s₁.setTop (mkF m 85 #[.val (.ref a1), .val (.int (Int32.ofNat i)), .val (.ref a2), .val (.int (0 : Int32)), .val (.int (Int32.ofNat 1)), .val (.int (0 : Int32)), .unset, .unset] [(.int (0 : Int32)), (.ref a2), (.int (f (i + 0)))])) _
        refine XS.iload X0.here hx rfl (hb hby d3_85) rfl ?_
        show Steps p.tables e below (s₁.setTop (mkF m 87 #[.val (.ref a1), .val (.int (Int32.ofNat i)), .val (.ref a2), .val (.int (0 : Int32)), .val (.int (Int32.ofNat 1)), .val (.int (0 : Int32)), .unset, .unset] [(.int (0 : Int32)), (.int (0 : Int32)), (.ref a2), (.int (f (i + 0)))])) _
        refine XS.iadd X0.here hx rfl (hb hby d3_87) rfl ?_
        show Steps p.tables e below (s₁.setTop (mkF m 88 #[.val (.ref a1), .val (.int (Int32.ofNat i)), .val (.ref a2), .val (.int (0 : Int32)), .val (.int (Int32.ofNat 1)), .val (.int (0 : Int32)), .unset, .unset] [(.int ((0 : Int32) + (0 : Int32))), (.ref a2), (.int (f (i + 0)))])) _
        exact k)
    have q10 : ∀ t, Steps p.tables e below (s₁.setTop (mkF m 88 #[.val (.ref a1), .val (.int (Int32.ofNat i)), .val (.ref a2), .val (.int (0 : Int32)), .val (.int (Int32.ofNat 1)), .val (.int (0 : Int32)), .unset, .unset] [(.int (0 : Int32)), (.ref a2), (.int (f (i + 0)))])) t → Steps p.tables e below (s₁.setTop (entryFrame m #[(.ref a1), (.int (Int32.ofNat i)), (.ref a2), (.int (0 : Int32)), (.int (Int32.ofNat 1))] 8)) t := fun t k => q9 t (by rw [show ((0 : Int32) + (0 : Int32)) = (0 : Int32) from ((by decide : (0 : Int32) = (0 : Int32) + (0 : Int32))).symm]; exact k)
    have q11 : ∀ t, Steps p.tables e below (s₁.setTop (mkF m 89 #[.val (.ref a1), .val (.int (Int32.ofNat i)), .val (.ref a2), .val (.int (0 : Int32)), .val (.int (Int32.ofNat 1)), .val (.int (0 : Int32)), .unset, .unset] [(.int (g 0)), (.int (f (i + 0)))])) t → Steps p.tables e below (s₁.setTop (entryFrame m #[(.ref a1), (.int (Int32.ofNat i)), (.ref a2), (.int (0 : Int32)), (.int (Int32.ofNat 1))] 8)) t := fun t k => q10 t (by
        show Steps p.tables e below (s₁.setTop (mkF m 88 #[.val (.ref a1), .val (.int (Int32.ofNat i)), .val (.ref a2), .val (.int (0 : Int32)), .val (.int (Int32.ofNat 1)), .val (.int (0 : Int32)), .unset, .unset] [(.int (0 : Int32)), (.ref a2), (.int (f (i + 0)))])) _
        refine X0.baloadBytes hx (j := (0 : Int32)) (v := (.int (g 0))) (by rw [e0]; exact Ar2.1) (State.isArrayOf_alike hZ.alike Ar2.2.1) Ar2.2.2 (by rw [S2]; decide) (H2 0 (by rw [S2]; decide)) (g := (mkF m 88 #[.val (.ref a1), .val (.int (Int32.ofNat i)), .val (.ref a2), .val (.int (0 : Int32)), .val (.int (Int32.ofNat 1)), .val (.int (0 : Int32)), .unset, .unset] [(.int (0 : Int32)), (.ref a2), (.int (f (i + 0)))])) rfl rfl (hb hby d3_88) _ ?_
        show Steps p.tables e below (s₁.setTop (mkF m 89 #[.val (.ref a1), .val (.int (Int32.ofNat i)), .val (.ref a2), .val (.int (0 : Int32)), .val (.int (Int32.ofNat 1)), .val (.int (0 : Int32)), .unset, .unset] [(.int (g 0)), (.int (f (i + 0)))])) _
        exact k)
    by_cases k12 : (f (i + 0)) = (g 0)
    · skip
      have q13 : ∀ t, Steps p.tables e below (s₁.setTop (mkF m 70 #[.val (.ref a1), .val (.int (Int32.ofNat i)), .val (.ref a2), .val (.int (0 : Int32)), .val (.int (Int32.ofNat 1)), .val (.int ((0 : Int32) + (1 : Int32))), .unset, .unset] [])) t → Steps p.tables e below (s₁.setTop (entryFrame m #[(.ref a1), (.int (Int32.ofNat i)), (.ref a2), (.int (0 : Int32)), (.int (Int32.ofNat 1))] 8)) t := fun t k => q11 t (by
          show Steps p.tables e below (s₁.setTop (mkF m 89 #[.val (.ref a1), .val (.int (Int32.ofNat i)), .val (.ref a2), .val (.int (0 : Int32)), .val (.int (Int32.ofNat 1)), .val (.int (0 : Int32)), .unset, .unset] [(.int (g 0)), (.int (f (i + 0)))])) _
          refine XS.icmpYes X0.here hx rfl (pc0 := 89) (pc' := 95) rfl (hb hby d3_89) rfl (XT.ii_eq_t (k12 : (f (i + 0)) = (g 0))) (by decide) (by decide) ?_
          show Steps p.tables e below (s₁.setTop (mkF m 95 #[.val (.ref a1), .val (.int (Int32.ofNat i)), .val (.ref a2), .val (.int (0 : Int32)), .val (.int (Int32.ofNat 1)), .val (.int (0 : Int32)), .unset, .unset] [])) _
          refine XS.iinc X0.here hx rfl (hb hby d3_95) rfl (l' := #[.val (.ref a1), .val (.int (Int32.ofNat i)), .val (.ref a2), .val (.int (0 : Int32)), .val (.int (Int32.ofNat 1)), .val (.int ((0 : Int32) + (1 : Int32))), .unset, .unset]) rfl ?_
          show Steps p.tables e below (s₁.setTop (mkF m 98 #[.val (.ref a1), .val (.int (Int32.ofNat i)), .val (.ref a2), .val (.int (0 : Int32)), .val (.int (Int32.ofNat 1)), .val (.int ((0 : Int32) + (1 : Int32))), .unset, .unset] [])) _
          refine XS.goto X0.here hx rfl (pc0 := 98) (pc' := 70) rfl (hb hby d3_98) (by decide) (by decide) ?_
          show Steps p.tables e below (s₁.setTop (mkF m 70 #[.val (.ref a1), .val (.int (Int32.ofNat i)), .val (.ref a2), .val (.int (0 : Int32)), .val (.int (Int32.ofNat 1)), .val (.int ((0 : Int32) + (1 : Int32))), .unset, .unset] [])) _
          exact k)
      have q14 : ∀ t, Steps p.tables e below (s₁.setTop (mkF m 70 #[.val (.ref a1), .val (.int (Int32.ofNat i)), .val (.ref a2), .val (.int (0 : Int32)), .val (.int (Int32.ofNat 1)), .val (.int (1 : Int32)), .unset, .unset] [])) t → Steps p.tables e below (s₁.setTop (entryFrame m #[(.ref a1), (.int (Int32.ofNat i)), (.ref a2), (.int (0 : Int32)), (.int (Int32.ofNat 1))] 8)) t := fun t k => q13 t (by rw [show ((0 : Int32) + (1 : Int32)) = (1 : Int32) from ((by decide : (1 : Int32) = (0 : Int32) + (1 : Int32))).symm]; exact k)
      have q15 : ∀ t, Steps p.tables e below (s₁.setTop (mkF m 102 #[.val (.ref a1), .val (.int (Int32.ofNat i)), .val (.ref a2), .val (.int (0 : Int32)), .val (.int (Int32.ofNat 1)), .val (.int (1 : Int32)), .unset, .unset] [(.int (-1 : Int32))])) t → Steps p.tables e below (s₁.setTop (entryFrame m #[(.ref a1), (.int (Int32.ofNat i)), (.ref a2), (.int (0 : Int32)), (.int (Int32.ofNat 1))] 8)) t := fun t k => q14 t (by
          show Steps p.tables e below (s₁.setTop (mkF m 70 #[.val (.ref a1), .val (.int (Int32.ofNat i)), .val (.ref a2), .val (.int (0 : Int32)), .val (.int (Int32.ofNat 1)), .val (.int (1 : Int32)), .unset, .unset] [])) _
          refine XS.iload X0.here hx rfl (hb hby d3_70) rfl ?_
          show Steps p.tables e below (s₁.setTop (mkF m 72 #[.val (.ref a1), .val (.int (Int32.ofNat i)), .val (.ref a2), .val (.int (0 : Int32)), .val (.int (Int32.ofNat 1)), .val (.int (1 : Int32)), .unset, .unset] [(.int (1 : Int32))])) _
          refine XS.iload X0.here hx rfl (hb hby d3_72) rfl ?_
          show Steps p.tables e below (s₁.setTop (mkF m 74 #[.val (.ref a1), .val (.int (Int32.ofNat i)), .val (.ref a2), .val (.int (0 : Int32)), .val (.int (Int32.ofNat 1)), .val (.int (1 : Int32)), .unset, .unset] [(.int (Int32.ofNat 1)), (.int (1 : Int32))])) _
          refine XS.icmpYes X0.here hx rfl (pc0 := 74) (pc' := 101) rfl (hb hby d3_74) rfl (XT.ii_ge_t (by decide : ¬ ((1 : Int32) < (Int32.ofNat 1)))) (by decide) (by decide) ?_
          show Steps p.tables e below (s₁.setTop (mkF m 101 #[.val (.ref a1), .val (.int (Int32.ofNat i)), .val (.ref a2), .val (.int (0 : Int32)), .val (.int (Int32.ofNat 1)), .val (.int (1 : Int32)), .unset, .unset] [])) _
          refine XS.iconst X0.here hx rfl (hb hby d3_101) ?_
          show Steps p.tables e below (s₁.setTop (mkF m 102 #[.val (.ref a1), .val (.int (Int32.ofNat i)), .val (.ref a2), .val (.int (0 : Int32)), .val (.int (Int32.ofNat 1)), .val (.int (1 : Int32)), .unset, .unset] [(.int (-1 : Int32))])) _
          exact k)
      obtain ⟨fs, hr, hrun, hended, hW, hsame⟩ := X0.leave (v := some (.int (-1 : Int32))) (fun h => by rw [Bd.returns] at h; cases h)
      refine ⟨_, _, q15 _ ?_, hrun, hended, _, _, rfl, ?_, ⟨_, rfl⟩, hW, hsame.mono (by decide) (by decide)⟩
      · show Steps p.tables e below (s₁.setTop (mkF m 102 #[.val (.ref a1), .val (.int (Int32.ofNat i)), .val (.ref a2), .val (.int (0 : Int32)), .val (.int (Int32.ofNat 1)), .val (.int (1 : Int32)), .unset, .unset] [(.int (-1 : Int32))])) _
        exact retI X0 hx Bd.returns (hb hby d3_102) hr
      · show QN (own_mis f g i 1) h0 n0 _ s₁.heap _
        exact ⟨by rw [own_mis1, if_pos k12], N0, e0⟩
    · skip
      have q16 : ∀ t, Steps p.tables e below (s₁.setTop (mkF m 94 #[.val (.ref a1), .val (.int (Int32.ofNat i)), .val (.ref a2), .val (.int (0 : Int32)), .val (.int (Int32.ofNat 1)), .val (.int (0 : Int32)), .unset, .unset] [(.int (0 : Int32))])) t → Steps p.tables e below (s₁.setTop (entryFrame m #[(.ref a1), (.int (Int32.ofNat i)), (.ref a2), (.int (0 : Int32)), (.int (Int32.ofNat 1))] 8)) t := fun t k => q11 t (by
          show Steps p.tables e below (s₁.setTop (mkF m 89 #[.val (.ref a1), .val (.int (Int32.ofNat i)), .val (.ref a2), .val (.int (0 : Int32)), .val (.int (Int32.ofNat 1)), .val (.int (0 : Int32)), .unset, .unset] [(.int (g 0)), (.int (f (i + 0)))])) _
          refine XS.icmpNo X0.here hx rfl (hb hby d3_89) rfl (XT.ii_eq_f (k12 : ¬ ((f (i + 0)) = (g 0)))) ?_
          show Steps p.tables e below (s₁.setTop (mkF m 92 #[.val (.ref a1), .val (.int (Int32.ofNat i)), .val (.ref a2), .val (.int (0 : Int32)), .val (.int (Int32.ofNat 1)), .val (.int (0 : Int32)), .unset, .unset] [])) _
          refine XS.iload X0.here hx rfl (hb hby d3_92) rfl ?_
          show Steps p.tables e below (s₁.setTop (mkF m 94 #[.val (.ref a1), .val (.int (Int32.ofNat i)), .val (.ref a2), .val (.int (0 : Int32)), .val (.int (Int32.ofNat 1)), .val (.int (0 : Int32)), .unset, .unset] [(.int (0 : Int32))])) _
          exact k)
      obtain ⟨fs, hr, hrun, hended, hW, hsame⟩ := X0.leave (v := some (.int (0 : Int32))) (fun h => by rw [Bd.returns] at h; cases h)
      refine ⟨_, _, q16 _ ?_, hrun, hended, _, _, rfl, ?_, ⟨_, rfl⟩, hW, hsame.mono (by decide) (by decide)⟩
      · show Steps p.tables e below (s₁.setTop (mkF m 94 #[.val (.ref a1), .val (.int (Int32.ofNat i)), .val (.ref a2), .val (.int (0 : Int32)), .val (.int (Int32.ofNat 1)), .val (.int (0 : Int32)), .unset, .unset] [(.int (0 : Int32))])) _
        exact retI X0 hx Bd.returns (hb hby d3_94) hr
      · show QN (own_mis f g i 1) h0 n0 _ s₁.heap _
        exact ⟨by rw [own_mis1, if_neg k12], N0, e0⟩
  · skip
    have S2' : cl2.slots.size = (Int32.ofNat 2).toNatClampNeg := by rw [own_n32 (by omega)]; exact S2
    have M2' : ¬ Int32.ofNat 2 < 0 := own_neg (by omega)
    have q17 : ∀ t, Steps p.tables e below (s₁.setTop (mkF m 82 #[.val (.ref a1), .val (.int (Int32.ofNat i)), .val (.ref a2), .val (.int (0 : Int32)), .val (.int (Int32.ofNat 2)), .val (.int (0 : Int32)), .unset, .unset] [(.int ((Int32.ofNat i) + (0 : Int32))), (.ref a1)])) t → Steps p.tables e below (s₁.setTop (entryFrame m #[(.ref a1), (.int (Int32.ofNat i)), (.ref a2), (.int (0 : Int32)), (.int (Int32.ofNat 2))] 8)) t := fun t k => pre0 t (by
        show Steps p.tables e below (s₁.setTop (mkF m 0 #[.val (.ref a1), .val (.int (Int32.ofNat i)), .val (.ref a2), .val (.int (0 : Int32)), .val (.int (Int32.ofNat 2)), .unset, .unset, .unset] [])) _
        refine XS.iconst X0.here hx rfl (hb hby d3_0) ?_
        show Steps p.tables e below (s₁.setTop (mkF m 1 #[.val (.ref a1), .val (.int (Int32.ofNat i)), .val (.ref a2), .val (.int (0 : Int32)), .val (.int (Int32.ofNat 2)), .unset, .unset, .unset] [(.int (0 : Int32))])) _
        refine XS.istore X0.here hx rfl (hb hby d3_1) rfl (l' := #[.val (.ref a1), .val (.int (Int32.ofNat i)), .val (.ref a2), .val (.int (0 : Int32)), .val (.int (Int32.ofNat 2)), .val (.int (0 : Int32)), .unset, .unset]) rfl ?_
        show Steps p.tables e below (s₁.setTop (mkF m 3 #[.val (.ref a1), .val (.int (Int32.ofNat i)), .val (.ref a2), .val (.int (0 : Int32)), .val (.int (Int32.ofNat 2)), .val (.int (0 : Int32)), .unset, .unset] [])) _
        refine XS.iload X0.here hx rfl (hb hby d3_3) rfl ?_
        show Steps p.tables e below (s₁.setTop (mkF m 5 #[.val (.ref a1), .val (.int (Int32.ofNat i)), .val (.ref a2), .val (.int (0 : Int32)), .val (.int (Int32.ofNat 2)), .val (.int (0 : Int32)), .unset, .unset] [(.int (Int32.ofNat 2))])) _
        refine XS.bipush X0.here hx rfl (hb hby d3_5) ?_
        show Steps p.tables e below (s₁.setTop (mkF m 7 #[.val (.ref a1), .val (.int (Int32.ofNat i)), .val (.ref a2), .val (.int (0 : Int32)), .val (.int (Int32.ofNat 2)), .val (.int (0 : Int32)), .unset, .unset] [(.int (7 : Int32)), (.int (Int32.ofNat 2))])) _
        refine XS.icmpYes X0.here hx rfl (pc0 := 7) (pc' := 70) rfl (hb hby d3_7) rfl (XT.ii_le_t (by decide : ¬ ((7 : Int32) < (Int32.ofNat 2)))) (by decide) (by decide) ?_
        show Steps p.tables e below (s₁.setTop (mkF m 70 #[.val (.ref a1), .val (.int (Int32.ofNat i)), .val (.ref a2), .val (.int (0 : Int32)), .val (.int (Int32.ofNat 2)), .val (.int (0 : Int32)), .unset, .unset] [])) _
        refine XS.iload X0.here hx rfl (hb hby d3_70) rfl ?_
        show Steps p.tables e below (s₁.setTop (mkF m 72 #[.val (.ref a1), .val (.int (Int32.ofNat i)), .val (.ref a2), .val (.int (0 : Int32)), .val (.int (Int32.ofNat 2)), .val (.int (0 : Int32)), .unset, .unset] [(.int (0 : Int32))])) _
        refine XS.iload X0.here hx rfl (hb hby d3_72) rfl ?_
        show Steps p.tables e below (s₁.setTop (mkF m 74 #[.val (.ref a1), .val (.int (Int32.ofNat i)), .val (.ref a2), .val (.int (0 : Int32)), .val (.int (Int32.ofNat 2)), .val (.int (0 : Int32)), .unset, .unset] [(.int (Int32.ofNat 2)), (.int (0 : Int32))])) _
        refine XS.icmpNo X0.here hx rfl (hb hby d3_74) rfl (XT.ii_ge_f (by decide : (0 : Int32) < (Int32.ofNat 2))) ?_
        show Steps p.tables e below (s₁.setTop (mkF m 77 #[.val (.ref a1), .val (.int (Int32.ofNat i)), .val (.ref a2), .val (.int (0 : Int32)), .val (.int (Int32.ofNat 2)), .val (.int (0 : Int32)), .unset, .unset] [])) _
        refine XS.aloadN X0.here hx rfl (hb hby d3_77) rfl rfl ?_
        show Steps p.tables e below (s₁.setTop (mkF m 78 #[.val (.ref a1), .val (.int (Int32.ofNat i)), .val (.ref a2), .val (.int (0 : Int32)), .val (.int (Int32.ofNat 2)), .val (.int (0 : Int32)), .unset, .unset] [(.ref a1)])) _
        refine XS.iloadN X0.here hx rfl (hb hby d3_78) rfl ?_
        show Steps p.tables e below (s₁.setTop (mkF m 79 #[.val (.ref a1), .val (.int (Int32.ofNat i)), .val (.ref a2), .val (.int (0 : Int32)), .val (.int (Int32.ofNat 2)), .val (.int (0 : Int32)), .unset, .unset] [(.int (Int32.ofNat i)), (.ref a1)])) _
        refine XS.iload X0.here hx rfl (hb hby d3_79) rfl ?_
        show Steps p.tables e below (s₁.setTop (mkF m 81 #[.val (.ref a1), .val (.int (Int32.ofNat i)), .val (.ref a2), .val (.int (0 : Int32)), .val (.int (Int32.ofNat 2)), .val (.int (0 : Int32)), .unset, .unset] [(.int (0 : Int32)), (.int (Int32.ofNat i)), (.ref a1)])) _
        refine XS.iadd X0.here hx rfl (hb hby d3_81) rfl ?_
        show Steps p.tables e below (s₁.setTop (mkF m 82 #[.val (.ref a1), .val (.int (Int32.ofNat i)), .val (.ref a2), .val (.int (0 : Int32)), .val (.int (Int32.ofNat 2)), .val (.int (0 : Int32)), .unset, .unset] [(.int ((Int32.ofNat i) + (0 : Int32))), (.ref a1)])) _
        exact k)
    have q18 : ∀ t, Steps p.tables e below (s₁.setTop (mkF m 82 #[.val (.ref a1), .val (.int (Int32.ofNat i)), .val (.ref a2), .val (.int (0 : Int32)), .val (.int (Int32.ofNat 2)), .val (.int (0 : Int32)), .unset, .unset] [(.int (Int32.ofNat (i + 0))), (.ref a1)])) t → Steps p.tables e below (s₁.setTop (entryFrame m #[(.ref a1), (.int (Int32.ofNat i)), (.ref a2), (.int (0 : Int32)), (.int (Int32.ofNat 2))] 8)) t := fun t k => q17 t (by rw [show ((Int32.ofNat i) + (0 : Int32)) = (Int32.ofNat (i + 0)) from (own_zero i).symm]; exact k)
    have q19 : ∀ t, Steps p.tables e below (s₁.setTop (mkF m 88 #[.val (.ref a1), .val (.int (Int32.ofNat i)), .val (.ref a2), .val (.int (0 : Int32)), .val (.int (Int32.ofNat 2)), .val (.int (0 : Int32)), .unset, .unset] [(.int ((0 : Int32) + (0 : Int32))), (.ref a2), (.int (f (i + 0)))])) t → Steps p.tables e below (s₁.setTop (entryFrame m #[(.ref a1), (.int (Int32.ofNat i)), (.ref a2), (.int (0 : Int32)), (.int (Int32.ofNat 2))] 8)) t := fun t k => q18 t (by
        show Steps p.tables e below (s₁.setTop (mkF m 82 #[.val (.ref a1), .val (.int (Int32.ofNat i)), .val (.ref a2), .val (.int (0 : Int32)), .val (.int (Int32.ofNat 2)), .val (.int (0 : Int32)), .unset, .unset] [(.int (Int32.ofNat (i + 0))), (.ref a1)])) _
        refine X0.baloadBytes hx (j := (Int32.ofNat (i + 0))) (v := (.int (f (i + 0)))) (by rw [e0]; exact Ar1.1) (State.isArrayOf_alike hZ.alike Ar1.2.1) Ar1.2.2 (own_in S1 (by omega) (by omega)) (own_hat S1 H1 (by omega) (by omega)) (g := (mkF m 82 #[.val (.ref a1), .val (.int (Int32.ofNat i)), .val (.ref a2), .val (.int (0 : Int32)), .val (.int (Int32.ofNat 2)), .val (.int (0 : Int32)), .unset, .unset] [(.int (Int32.ofNat (i + 0))), (.ref a1)])) rfl rfl (hb hby d3_82) _ ?_
        show Steps p.tables e below (s₁.setTop (mkF m 83 #[.val (.ref a1), .val (.int (Int32.ofNat i)), .val (.ref a2), .val (.int (0 : Int32)), .val (.int (Int32.ofNat 2)), .val (.int (0 : Int32)), .unset, .unset] [(.int (f (i + 0)))])) _
        refine XS.aloadN X0.here hx rfl (hb hby d3_83) rfl rfl ?_
        show Steps p.tables e below (s₁.setTop (mkF m 84 #[.val (.ref a1), .val (.int (Int32.ofNat i)), .val (.ref a2), .val (.int (0 : Int32)), .val (.int (Int32.ofNat 2)), .val (.int (0 : Int32)), .unset, .unset] [(.ref a2), (.int (f (i + 0)))])) _
        refine XS.iloadN X0.here hx rfl (hb hby d3_84) rfl ?_
        show Steps p.tables e below (s₁.setTop (mkF m 85 #[.val (.ref a1), .val (.int (Int32.ofNat i)), .val (.ref a2), .val (.int (0 : Int32)), .val (.int (Int32.ofNat 2)), .val (.int (0 : Int32)), .unset, .unset] [(.int (0 : Int32)), (.ref a2), (.int (f (i + 0)))])) _
        refine XS.iload X0.here hx rfl (hb hby d3_85) rfl ?_
        show Steps p.tables e below (s₁.setTop (mkF m 87 #[.val (.ref a1), .val (.int (Int32.ofNat i)), .val (.ref a2), .val (.int (0 : Int32)), .val (.int (Int32.ofNat 2)), .val (.int (0 : Int32)), .unset, .unset] [(.int (0 : Int32)), (.int (0 : Int32)), (.ref a2), (.int (f (i + 0)))])) _
        refine XS.iadd X0.here hx rfl (hb hby d3_87) rfl ?_
        show Steps p.tables e below (s₁.setTop (mkF m 88 #[.val (.ref a1), .val (.int (Int32.ofNat i)), .val (.ref a2), .val (.int (0 : Int32)), .val (.int (Int32.ofNat 2)), .val (.int (0 : Int32)), .unset, .unset] [(.int ((0 : Int32) + (0 : Int32))), (.ref a2), (.int (f (i + 0)))])) _
        exact k)
    have q20 : ∀ t, Steps p.tables e below (s₁.setTop (mkF m 88 #[.val (.ref a1), .val (.int (Int32.ofNat i)), .val (.ref a2), .val (.int (0 : Int32)), .val (.int (Int32.ofNat 2)), .val (.int (0 : Int32)), .unset, .unset] [(.int (0 : Int32)), (.ref a2), (.int (f (i + 0)))])) t → Steps p.tables e below (s₁.setTop (entryFrame m #[(.ref a1), (.int (Int32.ofNat i)), (.ref a2), (.int (0 : Int32)), (.int (Int32.ofNat 2))] 8)) t := fun t k => q19 t (by rw [show ((0 : Int32) + (0 : Int32)) = (0 : Int32) from ((by decide : (0 : Int32) = (0 : Int32) + (0 : Int32))).symm]; exact k)
    have q21 : ∀ t, Steps p.tables e below (s₁.setTop (mkF m 89 #[.val (.ref a1), .val (.int (Int32.ofNat i)), .val (.ref a2), .val (.int (0 : Int32)), .val (.int (Int32.ofNat 2)), .val (.int (0 : Int32)), .unset, .unset] [(.int (g 0)), (.int (f (i + 0)))])) t → Steps p.tables e below (s₁.setTop (entryFrame m #[(.ref a1), (.int (Int32.ofNat i)), (.ref a2), (.int (0 : Int32)), (.int (Int32.ofNat 2))] 8)) t := fun t k => q20 t (by
        show Steps p.tables e below (s₁.setTop (mkF m 88 #[.val (.ref a1), .val (.int (Int32.ofNat i)), .val (.ref a2), .val (.int (0 : Int32)), .val (.int (Int32.ofNat 2)), .val (.int (0 : Int32)), .unset, .unset] [(.int (0 : Int32)), (.ref a2), (.int (f (i + 0)))])) _
        refine X0.baloadBytes hx (j := (0 : Int32)) (v := (.int (g 0))) (by rw [e0]; exact Ar2.1) (State.isArrayOf_alike hZ.alike Ar2.2.1) Ar2.2.2 (by rw [S2]; decide) (H2 0 (by rw [S2]; decide)) (g := (mkF m 88 #[.val (.ref a1), .val (.int (Int32.ofNat i)), .val (.ref a2), .val (.int (0 : Int32)), .val (.int (Int32.ofNat 2)), .val (.int (0 : Int32)), .unset, .unset] [(.int (0 : Int32)), (.ref a2), (.int (f (i + 0)))])) rfl rfl (hb hby d3_88) _ ?_
        show Steps p.tables e below (s₁.setTop (mkF m 89 #[.val (.ref a1), .val (.int (Int32.ofNat i)), .val (.ref a2), .val (.int (0 : Int32)), .val (.int (Int32.ofNat 2)), .val (.int (0 : Int32)), .unset, .unset] [(.int (g 0)), (.int (f (i + 0)))])) _
        exact k)
    by_cases k22 : (f (i + 0)) = (g 0)
    · skip
      have q23 : ∀ t, Steps p.tables e below (s₁.setTop (mkF m 70 #[.val (.ref a1), .val (.int (Int32.ofNat i)), .val (.ref a2), .val (.int (0 : Int32)), .val (.int (Int32.ofNat 2)), .val (.int ((0 : Int32) + (1 : Int32))), .unset, .unset] [])) t → Steps p.tables e below (s₁.setTop (entryFrame m #[(.ref a1), (.int (Int32.ofNat i)), (.ref a2), (.int (0 : Int32)), (.int (Int32.ofNat 2))] 8)) t := fun t k => q21 t (by
          show Steps p.tables e below (s₁.setTop (mkF m 89 #[.val (.ref a1), .val (.int (Int32.ofNat i)), .val (.ref a2), .val (.int (0 : Int32)), .val (.int (Int32.ofNat 2)), .val (.int (0 : Int32)), .unset, .unset] [(.int (g 0)), (.int (f (i + 0)))])) _
          refine XS.icmpYes X0.here hx rfl (pc0 := 89) (pc' := 95) rfl (hb hby d3_89) rfl (XT.ii_eq_t (k22 : (f (i + 0)) = (g 0))) (by decide) (by decide) ?_
          show Steps p.tables e below (s₁.setTop (mkF m 95 #[.val (.ref a1), .val (.int (Int32.ofNat i)), .val (.ref a2), .val (.int (0 : Int32)), .val (.int (Int32.ofNat 2)), .val (.int (0 : Int32)), .unset, .unset] [])) _
          refine XS.iinc X0.here hx rfl (hb hby d3_95) rfl (l' := #[.val (.ref a1), .val (.int (Int32.ofNat i)), .val (.ref a2), .val (.int (0 : Int32)), .val (.int (Int32.ofNat 2)), .val (.int ((0 : Int32) + (1 : Int32))), .unset, .unset]) rfl ?_
          show Steps p.tables e below (s₁.setTop (mkF m 98 #[.val (.ref a1), .val (.int (Int32.ofNat i)), .val (.ref a2), .val (.int (0 : Int32)), .val (.int (Int32.ofNat 2)), .val (.int ((0 : Int32) + (1 : Int32))), .unset, .unset] [])) _
          refine XS.goto X0.here hx rfl (pc0 := 98) (pc' := 70) rfl (hb hby d3_98) (by decide) (by decide) ?_
          show Steps p.tables e below (s₁.setTop (mkF m 70 #[.val (.ref a1), .val (.int (Int32.ofNat i)), .val (.ref a2), .val (.int (0 : Int32)), .val (.int (Int32.ofNat 2)), .val (.int ((0 : Int32) + (1 : Int32))), .unset, .unset] [])) _
          exact k)
      have q24 : ∀ t, Steps p.tables e below (s₁.setTop (mkF m 70 #[.val (.ref a1), .val (.int (Int32.ofNat i)), .val (.ref a2), .val (.int (0 : Int32)), .val (.int (Int32.ofNat 2)), .val (.int (1 : Int32)), .unset, .unset] [])) t → Steps p.tables e below (s₁.setTop (entryFrame m #[(.ref a1), (.int (Int32.ofNat i)), (.ref a2), (.int (0 : Int32)), (.int (Int32.ofNat 2))] 8)) t := fun t k => q23 t (by rw [show ((0 : Int32) + (1 : Int32)) = (1 : Int32) from ((by decide : (1 : Int32) = (0 : Int32) + (1 : Int32))).symm]; exact k)
      have q25 : ∀ t, Steps p.tables e below (s₁.setTop (mkF m 82 #[.val (.ref a1), .val (.int (Int32.ofNat i)), .val (.ref a2), .val (.int (0 : Int32)), .val (.int (Int32.ofNat 2)), .val (.int (1 : Int32)), .unset, .unset] [(.int ((Int32.ofNat i) + (1 : Int32))), (.ref a1)])) t → Steps p.tables e below (s₁.setTop (entryFrame m #[(.ref a1), (.int (Int32.ofNat i)), (.ref a2), (.int (0 : Int32)), (.int (Int32.ofNat 2))] 8)) t := fun t k => q24 t (by
          show Steps p.tables e below (s₁.setTop (mkF m 70 #[.val (.ref a1), .val (.int (Int32.ofNat i)), .val (.ref a2), .val (.int (0 : Int32)), .val (.int (Int32.ofNat 2)), .val (.int (1 : Int32)), .unset, .unset] [])) _
          refine XS.iload X0.here hx rfl (hb hby d3_70) rfl ?_
          show Steps p.tables e below (s₁.setTop (mkF m 72 #[.val (.ref a1), .val (.int (Int32.ofNat i)), .val (.ref a2), .val (.int (0 : Int32)), .val (.int (Int32.ofNat 2)), .val (.int (1 : Int32)), .unset, .unset] [(.int (1 : Int32))])) _
          refine XS.iload X0.here hx rfl (hb hby d3_72) rfl ?_
          show Steps p.tables e below (s₁.setTop (mkF m 74 #[.val (.ref a1), .val (.int (Int32.ofNat i)), .val (.ref a2), .val (.int (0 : Int32)), .val (.int (Int32.ofNat 2)), .val (.int (1 : Int32)), .unset, .unset] [(.int (Int32.ofNat 2)), (.int (1 : Int32))])) _
          refine XS.icmpNo X0.here hx rfl (hb hby d3_74) rfl (XT.ii_ge_f (by decide : (1 : Int32) < (Int32.ofNat 2))) ?_
          show Steps p.tables e below (s₁.setTop (mkF m 77 #[.val (.ref a1), .val (.int (Int32.ofNat i)), .val (.ref a2), .val (.int (0 : Int32)), .val (.int (Int32.ofNat 2)), .val (.int (1 : Int32)), .unset, .unset] [])) _
          refine XS.aloadN X0.here hx rfl (hb hby d3_77) rfl rfl ?_
          show Steps p.tables e below (s₁.setTop (mkF m 78 #[.val (.ref a1), .val (.int (Int32.ofNat i)), .val (.ref a2), .val (.int (0 : Int32)), .val (.int (Int32.ofNat 2)), .val (.int (1 : Int32)), .unset, .unset] [(.ref a1)])) _
          refine XS.iloadN X0.here hx rfl (hb hby d3_78) rfl ?_
          show Steps p.tables e below (s₁.setTop (mkF m 79 #[.val (.ref a1), .val (.int (Int32.ofNat i)), .val (.ref a2), .val (.int (0 : Int32)), .val (.int (Int32.ofNat 2)), .val (.int (1 : Int32)), .unset, .unset] [(.int (Int32.ofNat i)), (.ref a1)])) _
          refine XS.iload X0.here hx rfl (hb hby d3_79) rfl ?_
          show Steps p.tables e below (s₁.setTop (mkF m 81 #[.val (.ref a1), .val (.int (Int32.ofNat i)), .val (.ref a2), .val (.int (0 : Int32)), .val (.int (Int32.ofNat 2)), .val (.int (1 : Int32)), .unset, .unset] [(.int (1 : Int32)), (.int (Int32.ofNat i)), (.ref a1)])) _
          refine XS.iadd X0.here hx rfl (hb hby d3_81) rfl ?_
          show Steps p.tables e below (s₁.setTop (mkF m 82 #[.val (.ref a1), .val (.int (Int32.ofNat i)), .val (.ref a2), .val (.int (0 : Int32)), .val (.int (Int32.ofNat 2)), .val (.int (1 : Int32)), .unset, .unset] [(.int ((Int32.ofNat i) + (1 : Int32))), (.ref a1)])) _
          exact k)
      have q26 : ∀ t, Steps p.tables e below (s₁.setTop (mkF m 82 #[.val (.ref a1), .val (.int (Int32.ofNat i)), .val (.ref a2), .val (.int (0 : Int32)), .val (.int (Int32.ofNat 2)), .val (.int (1 : Int32)), .unset, .unset] [(.int (Int32.ofNat (i + 1))), (.ref a1)])) t → Steps p.tables e below (s₁.setTop (entryFrame m #[(.ref a1), (.int (Int32.ofNat i)), (.ref a2), (.int (0 : Int32)), (.int (Int32.ofNat 2))] 8)) t := fun t k => q25 t (by rw [show ((Int32.ofNat i) + (1 : Int32)) = (Int32.ofNat (i + 1)) from (own_one i).symm]; exact k)
      have q27 : ∀ t, Steps p.tables e below (s₁.setTop (mkF m 88 #[.val (.ref a1), .val (.int (Int32.ofNat i)), .val (.ref a2), .val (.int (0 : Int32)), .val (.int (Int32.ofNat 2)), .val (.int (1 : Int32)), .unset, .unset] [(.int ((0 : Int32) + (1 : Int32))), (.ref a2), (.int (f (i + 1)))])) t → Steps p.tables e below (s₁.setTop (entryFrame m #[(.ref a1), (.int (Int32.ofNat i)), (.ref a2), (.int (0 : Int32)), (.int (Int32.ofNat 2))] 8)) t := fun t k => q26 t (by
          show Steps p.tables e below (s₁.setTop (mkF m 82 #[.val (.ref a1), .val (.int (Int32.ofNat i)), .val (.ref a2), .val (.int (0 : Int32)), .val (.int (Int32.ofNat 2)), .val (.int (1 : Int32)), .unset, .unset] [(.int (Int32.ofNat (i + 1))), (.ref a1)])) _
          refine X0.baloadBytes hx (j := (Int32.ofNat (i + 1))) (v := (.int (f (i + 1)))) (by rw [e0]; exact Ar1.1) (State.isArrayOf_alike hZ.alike Ar1.2.1) Ar1.2.2 (own_in S1 (by omega) (by omega)) (own_hat S1 H1 (by omega) (by omega)) (g := (mkF m 82 #[.val (.ref a1), .val (.int (Int32.ofNat i)), .val (.ref a2), .val (.int (0 : Int32)), .val (.int (Int32.ofNat 2)), .val (.int (1 : Int32)), .unset, .unset] [(.int (Int32.ofNat (i + 1))), (.ref a1)])) rfl rfl (hb hby d3_82) _ ?_
          show Steps p.tables e below (s₁.setTop (mkF m 83 #[.val (.ref a1), .val (.int (Int32.ofNat i)), .val (.ref a2), .val (.int (0 : Int32)), .val (.int (Int32.ofNat 2)), .val (.int (1 : Int32)), .unset, .unset] [(.int (f (i + 1)))])) _
          refine XS.aloadN X0.here hx rfl (hb hby d3_83) rfl rfl ?_
          show Steps p.tables e below (s₁.setTop (mkF m 84 #[.val (.ref a1), .val (.int (Int32.ofNat i)), .val (.ref a2), .val (.int (0 : Int32)), .val (.int (Int32.ofNat 2)), .val (.int (1 : Int32)), .unset, .unset] [(.ref a2), (.int (f (i + 1)))])) _
          refine XS.iloadN X0.here hx rfl (hb hby d3_84) rfl ?_
          show Steps p.tables e below (s₁.setTop (mkF m 85 #[.val (.ref a1), .val (.int (Int32.ofNat i)), .val (.ref a2), .val (.int (0 : Int32)), .val (.int (Int32.ofNat 2)), .val (.int (1 : Int32)), .unset, .unset] [(.int (0 : Int32)), (.ref a2), (.int (f (i + 1)))])) _
          refine XS.iload X0.here hx rfl (hb hby d3_85) rfl ?_
          show Steps p.tables e below (s₁.setTop (mkF m 87 #[.val (.ref a1), .val (.int (Int32.ofNat i)), .val (.ref a2), .val (.int (0 : Int32)), .val (.int (Int32.ofNat 2)), .val (.int (1 : Int32)), .unset, .unset] [(.int (1 : Int32)), (.int (0 : Int32)), (.ref a2), (.int (f (i + 1)))])) _
          refine XS.iadd X0.here hx rfl (hb hby d3_87) rfl ?_
          show Steps p.tables e below (s₁.setTop (mkF m 88 #[.val (.ref a1), .val (.int (Int32.ofNat i)), .val (.ref a2), .val (.int (0 : Int32)), .val (.int (Int32.ofNat 2)), .val (.int (1 : Int32)), .unset, .unset] [(.int ((0 : Int32) + (1 : Int32))), (.ref a2), (.int (f (i + 1)))])) _
          exact k)
      have q28 : ∀ t, Steps p.tables e below (s₁.setTop (mkF m 88 #[.val (.ref a1), .val (.int (Int32.ofNat i)), .val (.ref a2), .val (.int (0 : Int32)), .val (.int (Int32.ofNat 2)), .val (.int (1 : Int32)), .unset, .unset] [(.int (1 : Int32)), (.ref a2), (.int (f (i + 1)))])) t → Steps p.tables e below (s₁.setTop (entryFrame m #[(.ref a1), (.int (Int32.ofNat i)), (.ref a2), (.int (0 : Int32)), (.int (Int32.ofNat 2))] 8)) t := fun t k => q27 t (by rw [show ((0 : Int32) + (1 : Int32)) = (1 : Int32) from ((by decide : (1 : Int32) = (0 : Int32) + (1 : Int32))).symm]; exact k)
      have q29 : ∀ t, Steps p.tables e below (s₁.setTop (mkF m 89 #[.val (.ref a1), .val (.int (Int32.ofNat i)), .val (.ref a2), .val (.int (0 : Int32)), .val (.int (Int32.ofNat 2)), .val (.int (1 : Int32)), .unset, .unset] [(.int (g 1)), (.int (f (i + 1)))])) t → Steps p.tables e below (s₁.setTop (entryFrame m #[(.ref a1), (.int (Int32.ofNat i)), (.ref a2), (.int (0 : Int32)), (.int (Int32.ofNat 2))] 8)) t := fun t k => q28 t (by
          show Steps p.tables e below (s₁.setTop (mkF m 88 #[.val (.ref a1), .val (.int (Int32.ofNat i)), .val (.ref a2), .val (.int (0 : Int32)), .val (.int (Int32.ofNat 2)), .val (.int (1 : Int32)), .unset, .unset] [(.int (1 : Int32)), (.ref a2), (.int (f (i + 1)))])) _
          refine X0.baloadBytes hx (j := (1 : Int32)) (v := (.int (g 1))) (by rw [e0]; exact Ar2.1) (State.isArrayOf_alike hZ.alike Ar2.2.1) Ar2.2.2 (by rw [S2]; decide) (H2 1 (by rw [S2]; decide)) (g := (mkF m 88 #[.val (.ref a1), .val (.int (Int32.ofNat i)), .val (.ref a2), .val (.int (0 : Int32)), .val (.int (Int32.ofNat 2)), .val (.int (1 : Int32)), .unset, .unset] [(.int (1 : Int32)), (.ref a2), (.int (f (i + 1)))])) rfl rfl (hb hby d3_88) _ ?_
          show Steps p.tables e below (s₁.setTop (mkF m 89 #[.val (.ref a1), .val (.int (Int32.ofNat i)), .val (.ref a2), .val (.int (0 : Int32)), .val (.int (Int32.ofNat 2)), .val (.int (1 : Int32)), .unset, .unset] [(.int (g 1)), (.int (f (i + 1)))])) _
          exact k)
      by_cases k30 : (f (i + 1)) = (g 1)
      · skip
        have q31 : ∀ t, Steps p.tables e below (s₁.setTop (mkF m 70 #[.val (.ref a1), .val (.int (Int32.ofNat i)), .val (.ref a2), .val (.int (0 : Int32)), .val (.int (Int32.ofNat 2)), .val (.int ((1 : Int32) + (1 : Int32))), .unset, .unset] [])) t → Steps p.tables e below (s₁.setTop (entryFrame m #[(.ref a1), (.int (Int32.ofNat i)), (.ref a2), (.int (0 : Int32)), (.int (Int32.ofNat 2))] 8)) t := fun t k => q29 t (by
            show Steps p.tables e below (s₁.setTop (mkF m 89 #[.val (.ref a1), .val (.int (Int32.ofNat i)), .val (.ref a2), .val (.int (0 : Int32)), .val (.int (Int32.ofNat 2)), .val (.int (1 : Int32)), .unset, .unset] [(.int (g 1)), (.int (f (i + 1)))])) _
            refine XS.icmpYes X0.here hx rfl (pc0 := 89) (pc' := 95) rfl (hb hby d3_89) rfl (XT.ii_eq_t (k30 : (f (i + 1)) = (g 1))) (by decide) (by decide) ?_
            show Steps p.tables e below (s₁.setTop (mkF m 95 #[.val (.ref a1), .val (.int (Int32.ofNat i)), .val (.ref a2), .val (.int (0 : Int32)), .val (.int (Int32.ofNat 2)), .val (.int (1 : Int32)), .unset, .unset] [])) _
            refine XS.iinc X0.here hx rfl (hb hby d3_95) rfl (l' := #[.val (.ref a1), .val (.int (Int32.ofNat i)), .val (.ref a2), .val (.int (0 : Int32)), .val (.int (Int32.ofNat 2)), .val (.int ((1 : Int32) + (1 : Int32))), .unset, .unset]) rfl ?_
            show Steps p.tables e below (s₁.setTop (mkF m 98 #[.val (.ref a1), .val (.int (Int32.ofNat i)), .val (.ref a2), .val (.int (0 : Int32)), .val (.int (Int32.ofNat 2)), .val (.int ((1 : Int32) + (1 : Int32))), .unset, .unset] [])) _
            refine XS.goto X0.here hx rfl (pc0 := 98) (pc' := 70) rfl (hb hby d3_98) (by decide) (by decide) ?_
            show Steps p.tables e below (s₁.setTop (mkF m 70 #[.val (.ref a1), .val (.int (Int32.ofNat i)), .val (.ref a2), .val (.int (0 : Int32)), .val (.int (Int32.ofNat 2)), .val (.int ((1 : Int32) + (1 : Int32))), .unset, .unset] [])) _
            exact k)
        have q32 : ∀ t, Steps p.tables e below (s₁.setTop (mkF m 70 #[.val (.ref a1), .val (.int (Int32.ofNat i)), .val (.ref a2), .val (.int (0 : Int32)), .val (.int (Int32.ofNat 2)), .val (.int (2 : Int32)), .unset, .unset] [])) t → Steps p.tables e below (s₁.setTop (entryFrame m #[(.ref a1), (.int (Int32.ofNat i)), (.ref a2), (.int (0 : Int32)), (.int (Int32.ofNat 2))] 8)) t := fun t k => q31 t (by rw [show ((1 : Int32) + (1 : Int32)) = (2 : Int32) from ((by decide : (2 : Int32) = (1 : Int32) + (1 : Int32))).symm]; exact k)
        have q33 : ∀ t, Steps p.tables e below (s₁.setTop (mkF m 102 #[.val (.ref a1), .val (.int (Int32.ofNat i)), .val (.ref a2), .val (.int (0 : Int32)), .val (.int (Int32.ofNat 2)), .val (.int (2 : Int32)), .unset, .unset] [(.int (-1 : Int32))])) t → Steps p.tables e below (s₁.setTop (entryFrame m #[(.ref a1), (.int (Int32.ofNat i)), (.ref a2), (.int (0 : Int32)), (.int (Int32.ofNat 2))] 8)) t := fun t k => q32 t (by
            show Steps p.tables e below (s₁.setTop (mkF m 70 #[.val (.ref a1), .val (.int (Int32.ofNat i)), .val (.ref a2), .val (.int (0 : Int32)), .val (.int (Int32.ofNat 2)), .val (.int (2 : Int32)), .unset, .unset] [])) _
            refine XS.iload X0.here hx rfl (hb hby d3_70) rfl ?_
            show Steps p.tables e below (s₁.setTop (mkF m 72 #[.val (.ref a1), .val (.int (Int32.ofNat i)), .val (.ref a2), .val (.int (0 : Int32)), .val (.int (Int32.ofNat 2)), .val (.int (2 : Int32)), .unset, .unset] [(.int (2 : Int32))])) _
            refine XS.iload X0.here hx rfl (hb hby d3_72) rfl ?_
            show Steps p.tables e below (s₁.setTop (mkF m 74 #[.val (.ref a1), .val (.int (Int32.ofNat i)), .val (.ref a2), .val (.int (0 : Int32)), .val (.int (Int32.ofNat 2)), .val (.int (2 : Int32)), .unset, .unset] [(.int (Int32.ofNat 2)), (.int (2 : Int32))])) _
            refine XS.icmpYes X0.here hx rfl (pc0 := 74) (pc' := 101) rfl (hb hby d3_74) rfl (XT.ii_ge_t (by decide : ¬ ((2 : Int32) < (Int32.ofNat 2)))) (by decide) (by decide) ?_
            show Steps p.tables e below (s₁.setTop (mkF m 101 #[.val (.ref a1), .val (.int (Int32.ofNat i)), .val (.ref a2), .val (.int (0 : Int32)), .val (.int (Int32.ofNat 2)), .val (.int (2 : Int32)), .unset, .unset] [])) _
            refine XS.iconst X0.here hx rfl (hb hby d3_101) ?_
            show Steps p.tables e below (s₁.setTop (mkF m 102 #[.val (.ref a1), .val (.int (Int32.ofNat i)), .val (.ref a2), .val (.int (0 : Int32)), .val (.int (Int32.ofNat 2)), .val (.int (2 : Int32)), .unset, .unset] [(.int (-1 : Int32))])) _
            exact k)
        obtain ⟨fs, hr, hrun, hended, hW, hsame⟩ := X0.leave (v := some (.int (-1 : Int32))) (fun h => by rw [Bd.returns] at h; cases h)
        refine ⟨_, _, q33 _ ?_, hrun, hended, _, _, rfl, ?_, ⟨_, rfl⟩, hW, hsame.mono (by decide) (by decide)⟩
        · show Steps p.tables e below (s₁.setTop (mkF m 102 #[.val (.ref a1), .val (.int (Int32.ofNat i)), .val (.ref a2), .val (.int (0 : Int32)), .val (.int (Int32.ofNat 2)), .val (.int (2 : Int32)), .unset, .unset] [(.int (-1 : Int32))])) _
          exact retI X0 hx Bd.returns (hb hby d3_102) hr
        · show QN (own_mis f g i 2) h0 n0 _ s₁.heap _
          exact ⟨by rw [own_mis2, if_pos k22, if_pos k30], N0, e0⟩
      · skip
        have q34 : ∀ t, Steps p.tables e below (s₁.setTop (mkF m 94 #[.val (.ref a1), .val (.int (Int32.ofNat i)), .val (.ref a2), .val (.int (0 : Int32)), .val (.int (Int32.ofNat 2)), .val (.int (1 : Int32)), .unset, .unset] [(.int (1 : Int32))])) t → Steps p.tables e below (s₁.setTop (entryFrame m #[(.ref a1), (.int (Int32.ofNat i)), (.ref a2), (.int (0 : Int32)), (.int (Int32.ofNat 2))] 8)) t := fun t k => q29 t (by
            show Steps p.tables e below (s₁.setTop (mkF m 89 #[.val (.ref a1), .val (.int (Int32.ofNat i)), .val (.ref a2), .val (.int (0 : Int32)), .val (.int (Int32.ofNat 2)), .val (.int (1 : Int32)), .unset, .unset] [(.int (g 1)), (.int (f (i + 1)))])) _
            refine XS.icmpNo X0.here hx rfl (hb hby d3_89) rfl (XT.ii_eq_f (k30 : ¬ ((f (i + 1)) = (g 1)))) ?_
            show Steps p.tables e below (s₁.setTop (mkF m 92 #[.val (.ref a1), .val (.int (Int32.ofNat i)), .val (.ref a2), .val (.int (0 : Int32)), .val (.int (Int32.ofNat 2)), .val (.int (1 : Int32)), .unset, .unset] [])) _
            refine XS.iload X0.here hx rfl (hb hby d3_92) rfl ?_
            show Steps p.tables e below (s₁.setTop (mkF m 94 #[.val (.ref a1), .val (.int (Int32.ofNat i)), .val (.ref a2), .val (.int (0 : Int32)), .val (.int (Int32.ofNat 2)), .val (.int (1 : Int32)), .unset, .unset] [(.int (1 : Int32))])) _
            exact k)
        obtain ⟨fs, hr, hrun, hended, hW, hsame⟩ := X0.leave (v := some (.int (1 : Int32))) (fun h => by rw [Bd.returns] at h; cases h)
        refine ⟨_, _, q34 _ ?_, hrun, hended, _, _, rfl, ?_, ⟨_, rfl⟩, hW, hsame.mono (by decide) (by decide)⟩
        · show Steps p.tables e below (s₁.setTop (mkF m 94 #[.val (.ref a1), .val (.int (Int32.ofNat i)), .val (.ref a2), .val (.int (0 : Int32)), .val (.int (Int32.ofNat 2)), .val (.int (1 : Int32)), .unset, .unset] [(.int (1 : Int32))])) _
          exact retI X0 hx Bd.returns (hb hby d3_94) hr
        · show QN (own_mis f g i 2) h0 n0 _ s₁.heap _
          exact ⟨by rw [own_mis2, if_pos k22, if_neg k30], N0, e0⟩
    · skip
      have q35 : ∀ t, Steps p.tables e below (s₁.setTop (mkF m 94 #[.val (.ref a1), .val (.int (Int32.ofNat i)), .val (.ref a2), .val (.int (0 : Int32)), .val (.int (Int32.ofNat 2)), .val (.int (0 : Int32)), .unset, .unset] [(.int (0 : Int32))])) t → Steps p.tables e below (s₁.setTop (entryFrame m #[(.ref a1), (.int (Int32.ofNat i)), (.ref a2), (.int (0 : Int32)), (.int (Int32.ofNat 2))] 8)) t := fun t k => q21 t (by
          show Steps p.tables e below (s₁.setTop (mkF m 89 #[.val (.ref a1), .val (.int (Int32.ofNat i)), .val (.ref a2), .val (.int (0 : Int32)), .val (.int (Int32.ofNat 2)), .val (.int (0 : Int32)), .unset, .unset] [(.int (g 0)), (.int (f (i + 0)))])) _
          refine XS.icmpNo X0.here hx rfl (hb hby d3_89) rfl (XT.ii_eq_f (k22 : ¬ ((f (i + 0)) = (g 0)))) ?_
          show Steps p.tables e below (s₁.setTop (mkF m 92 #[.val (.ref a1), .val (.int (Int32.ofNat i)), .val (.ref a2), .val (.int (0 : Int32)), .val (.int (Int32.ofNat 2)), .val (.int (0 : Int32)), .unset, .unset] [])) _
          refine XS.iload X0.here hx rfl (hb hby d3_92) rfl ?_
          show Steps p.tables e below (s₁.setTop (mkF m 94 #[.val (.ref a1), .val (.int (Int32.ofNat i)), .val (.ref a2), .val (.int (0 : Int32)), .val (.int (Int32.ofNat 2)), .val (.int (0 : Int32)), .unset, .unset] [(.int (0 : Int32))])) _
          exact k)
      obtain ⟨fs, hr, hrun, hended, hW, hsame⟩ := X0.leave (v := some (.int (0 : Int32))) (fun h => by rw [Bd.returns] at h; cases h)
      refine ⟨_, _, q35 _ ?_, hrun, hended, _, _, rfl, ?_, ⟨_, rfl⟩, hW, hsame.mono (by decide) (by decide)⟩
      · show Steps p.tables e below (s₁.setTop (mkF m 94 #[.val (.ref a1), .val (.int (Int32.ofNat i)), .val (.ref a2), .val (.int (0 : Int32)), .val (.int (Int32.ofNat 2)), .val (.int (0 : Int32)), .unset, .unset] [(.int (0 : Int32))])) _
        exact retI X0 hx Bd.returns (hb hby d3_94) hr
      · show QN (own_mis f g i 2) h0 n0 _ s₁.heap _
        exact ⟨by rw [own_mis2, if_neg k22], N0, e0⟩
  · skip
    have S2' : cl2.slots.size = (Int32.ofNat 3).toNatClampNeg := by rw [own_n32 (by omega)]; exact S2
    have M2' : ¬ Int32.ofNat 3 < 0 := own_neg (by omega)
    have q36 : ∀ t, Steps p.tables e below (s₁.setTop (mkF m 82 #[.val (.ref a1), .val (.int (Int32.ofNat i)), .val (.ref a2), .val (.int (0 : Int32)), .val (.int (Int32.ofNat 3)), .val (.int (0 : Int32)), .unset, .unset] [(.int ((Int32.ofNat i) + (0 : Int32))), (.ref a1)])) t → Steps p.tables e below (s₁.setTop (entryFrame m #[(.ref a1), (.int (Int32.ofNat i)), (.ref a2), (.int (0 : Int32)), (.int (Int32.ofNat 3))] 8)) t := fun t k => pre0 t (by
        show Steps p.tables e below (s₁.setTop (mkF m 0 #[.val (.ref a1), .val (.int (Int32.ofNat i)), .val (.ref a2), .val (.int (0 : Int32)), .val (.int (Int32.ofNat 3)), .unset, .unset, .unset] [])) _
        refine XS.iconst X0.here hx rfl (hb hby d3_0) ?_
        show Steps p.tables e below (s₁.setTop (mkF m 1 #[.val (.ref a1), .val (.int (Int32.ofNat i)), .val (.ref a2), .val (.int (0 : Int32)), .val (.int (Int32.ofNat 3)), .unset, .unset, .unset] [(.int (0 : Int32))])) _
        refine XS.istore X0.here hx rfl (hb hby d3_1) rfl (l' := #[.val (.ref a1), .val (.int (Int32.ofNat i)), .val (.ref a2), .val (.int (0 : Int32)), .val (.int (Int32.ofNat 3)), .val (.int (0 : Int32)), .unset, .unset]) rfl ?_
        show Steps p.tables e below (s₁.setTop (mkF m 3 #[.val (.ref a1), .val (.int (Int32.ofNat i)), .val (.ref a2), .val (.int (0 : Int32)), .val (.int (Int32.ofNat 3)), .val (.int (0 : Int32)), .unset, .unset] [])) _
        refine XS.iload X0.here hx rfl (hb hby d3_3) rfl ?_
        show Steps p.tables e below (s₁.setTop (mkF m 5 #[.val (.ref a1), .val (.int (Int32.ofNat i)), .val (.ref a2), .val (.int (0 : Int32)), .val (.int (Int32.ofNat 3)), .val (.int (0 : Int32)), .unset, .unset] [(.int (Int32.ofNat 3))])) _
        refine XS.bipush X0.here hx rfl (hb hby d3_5) ?_
        show Steps p.tables e below (s₁.setTop (mkF m 7 #[.val (.ref a1), .val (.int (Int32.ofNat i)), .val (.ref a2), .val (.int (0 : Int32)), .val (.int (Int32.ofNat 3)), .val (.int (0 : Int32)), .unset, .unset] [(.int (7 : Int32)), (.int (Int32.ofNat 3))])) _
        refine XS.icmpYes X0.here hx rfl (pc0 := 7) (pc' := 70) rfl (hb hby d3_7) rfl (XT.ii_le_t (by decide : ¬ ((7 : Int32) < (Int32.ofNat 3)))) (by decide) (by decide) ?_
        show Steps p.tables e below (s₁.setTop (mkF m 70 #[.val (.ref a1), .val (.int (Int32.ofNat i)), .val (.ref a2), .val (.int (0 : Int32)), .val (.int (Int32.ofNat 3)), .val (.int (0 : Int32)), .unset, .unset] [])) _
        refine XS.iload X0.here hx rfl (hb hby d3_70) rfl ?_
        show Steps p.tables e below (s₁.setTop (mkF m 72 #[.val (.ref a1), .val (.int (Int32.ofNat i)), .val (.ref a2), .val (.int (0 : Int32)), .val (.int (Int32.ofNat 3)), .val (.int (0 : Int32)), .unset, .unset] [(.int (0 : Int32))])) _
        refine XS.iload X0.here hx rfl (hb hby d3_72) rfl ?_
        show Steps p.tables e below (s₁.setTop (mkF m 74 #[.val (.ref a1), .val (.int (Int32.ofNat i)), .val (.ref a2), .val (.int (0 : Int32)), .val (.int (Int32.ofNat 3)), .val (.int (0 : Int32)), .unset, .unset] [(.int (Int32.ofNat 3)), (.int (0 : Int32))])) _
        refine XS.icmpNo X0.here hx rfl (hb hby d3_74) rfl (XT.ii_ge_f (by decide : (0 : Int32) < (Int32.ofNat 3))) ?_
        show Steps p.tables e below (s₁.setTop (mkF m 77 #[.val (.ref a1), .val (.int (Int32.ofNat i)), .val (.ref a2), .val (.int (0 : Int32)), .val (.int (Int32.ofNat 3)), .val (.int (0 : Int32)), .unset, .unset] [])) _
        refine XS.aloadN X0.here hx rfl (hb hby d3_77) rfl rfl ?_
        show Steps p.tables e below (s₁.setTop (mkF m 78 #[.val (.ref a1), .val (.int (Int32.ofNat i)), .val (.ref a2), .val (.int (0 : Int32)), .val (.int (Int32.ofNat 3)), .val (.int (0 : Int32)), .unset, .unset] [(.ref a1)])) _
        refine XS.iloadN X0.here hx rfl (hb hby d3_78) rfl ?_
        show Steps p.tables e below (s₁.setTop (mkF m 79 #[.val (.ref a1), .val (.int (Int32.ofNat i)), .val (.ref a2), .val (.int (0 : Int32)), .val (.int (Int32.ofNat 3)), .val (.int (0 : Int32)), .unset, .unset] [(.int (Int32.ofNat i)), (.ref a1)])) _
        refine XS.iload X0.here hx rfl (hb hby d3_79) rfl ?_
        show Steps p.tables e below (s₁.setTop (mkF m 81 #[.val (.ref a1), .val (.int (Int32.ofNat i)), .val (.ref a2), .val (.int (0 : Int32)), .val (.int (Int32.ofNat 3)), .val (.int (0 : Int32)), .unset, .unset] [(.int (0 : Int32)), (.int (Int32.ofNat i)), (.ref a1)])) _
        refine XS.iadd X0.here hx rfl (hb hby d3_81) rfl ?_
        show Steps p.tables e below (s₁.setTop (mkF m 82 #[.val (.ref a1), .val (.int (Int32.ofNat i)), .val (.ref a2), .val (.int (0 : Int32)), .val (.int (Int32.ofNat 3)), .val (.int (0 : Int32)), .unset, .unset] [(.int ((Int32.ofNat i) + (0 : Int32))), (.ref a1)])) _
        exact k)
    have q37 : ∀ t, Steps p.tables e below (s₁.setTop (mkF m 82 #[.val (.ref a1), .val (.int (Int32.ofNat i)), .val (.ref a2), .val (.int (0 : Int32)), .val (.int (Int32.ofNat 3)), .val (.int (0 : Int32)), .unset, .unset] [(.int (Int32.ofNat (i + 0))), (.ref a1)])) t → Steps p.tables e below (s₁.setTop (entryFrame m #[(.ref a1), (.int (Int32.ofNat i)), (.ref a2), (.int (0 : Int32)), (.int (Int32.ofNat 3))] 8)) t := fun t k => q36 t (by rw [show ((Int32.ofNat i) + (0 : Int32)) = (Int32.ofNat (i + 0)) from (own_zero i).symm]; exact k)
    have q38 : ∀ t, Steps p.tables e below (s₁.setTop (mkF m 88 #[.val (.ref a1), .val (.int (Int32.ofNat i)), .val (.ref a2), .val (.int (0 : Int32)), .val (.int (Int32.ofNat 3)), .val (.int (0 : Int32)), .unset, .unset] [(.int ((0 : Int32) + (0 : Int32))), (.ref a2), (.int (f (i + 0)))])) t → Steps p.tables e below (s₁.setTop (entryFrame m #[(.ref a1), (.int (Int32.ofNat i)), (.ref a2), (.int (0 : Int32)), (.int (Int32.ofNat 3))] 8)) t := fun t k => q37 t (by
        show Steps p.tables e below (s₁.setTop (mkF m 82 #[.val (.ref a1), .val (.int (Int32.ofNat i)), .val (.ref a2), .val (.int (0 : Int32)), .val (.int (Int32.ofNat 3)), .val (.int (0 : Int32)), .unset, .unset] [(.int (Int32.ofNat (i + 0))), (.ref a1)])) _
        refine X0.baloadBytes hx (j := (Int32.ofNat (i + 0))) (v := (.int (f (i + 0)))) (by rw [e0]; exact Ar1.1) (State.isArrayOf_alike hZ.alike Ar1.2.1) Ar1.2.2 (own_in S1 (by omega) (by omega)) (own_hat S1 H1 (by omega) (by omega)) (g := (mkF m 82 #[.val (.ref a1), .val (.int (Int32.ofNat i)), .val (.ref a2), .val (.int (0 : Int32)), .val (.int (Int32.ofNat 3)), .val (.int (0 : Int32)), .unset, .unset] [(.int (Int32.ofNat (i + 0))), (.ref a1)])) rfl rfl (hb hby d3_82) _ ?_
        show Steps p.tables e below (s₁.setTop (mkF m 83 #[.val (.ref a1), .val (.int (Int32.ofNat i)), .val (.ref a2), .val (.int (0 : Int32)), .val (.int (Int32.ofNat 3)), .val (.int (0 : Int32)), .unset, .unset] [(.int (f (i + 0)))])) _
        refine XS.aloadN X0.here hx rfl (hb hby d3_83) rfl rfl ?_
        show Steps p.tables e below (s₁.setTop (mkF m 84 #[.val (.ref a1), .val (.int (Int32.ofNat i)), .val (.ref a2), .val (.int (0 : Int32)), .val (.int (Int32.ofNat 3)), .val (.int (0 : Int32)), .unset, .unset] [(.ref a2), (.int (f (i + 0)))])) _
        refine XS.iloadN X0.here hx rfl (hb hby d3_84) rfl ?_
        show Steps p.tables e below (s₁.setTop (mkF m 85 #[.val (.ref a1), .val (.int (Int32.ofNat i)), .val (.ref a2), .val (.int (0 : Int32)), .val (.int (Int32.ofNat 3)), .val (.int (0 : Int32)), .unset, .unset] [(.int (0 : Int32)), (.ref a2), (.int (f (i + 0)))])) _
        refine XS.iload X0.here hx rfl (hb hby d3_85) rfl ?_
        show Steps p.tables e below (s₁.setTop (mkF m 87 #[.val (.ref a1), .val (.int (Int32.ofNat i)), .val (.ref a2), .val (.int (0 : Int32)), .val (.int (Int32.ofNat 3)), .val (.int (0 : Int32)), .unset, .unset] [(.int (0 : Int32)), (.int (0 : Int32)), (.ref a2), (.int (f (i + 0)))])) _
        refine XS.iadd X0.here hx rfl (hb hby d3_87) rfl ?_
        show Steps p.tables e below (s₁.setTop (mkF m 88 #[.val (.ref a1), .val (.int (Int32.ofNat i)), .val (.ref a2), .val (.int (0 : Int32)), .val (.int (Int32.ofNat 3)), .val (.int (0 : Int32)), .unset, .unset] [(.int ((0 : Int32) + (0 : Int32))), (.ref a2), (.int (f (i + 0)))])) _
        exact k)
    have q39 : ∀ t, Steps p.tables e below (s₁.setTop (mkF m 88 #[.val (.ref a1), .val (.int (Int32.ofNat i)), .val (.ref a2), .val (.int (0 : Int32)), .val (.int (Int32.ofNat 3)), .val (.int (0 : Int32)), .unset, .unset] [(.int (0 : Int32)), (.ref a2), (.int (f (i + 0)))])) t → Steps p.tables e below (s₁.setTop (entryFrame m #[(.ref a1), (.int (Int32.ofNat i)), (.ref a2), (.int (0 : Int32)), (.int (Int32.ofNat 3))] 8)) t := fun t k => q38 t (by rw [show ((0 : Int32) + (0 : Int32)) = (0 : Int32) from ((by decide : (0 : Int32) = (0 : Int32) + (0 : Int32))).symm]; exact k)
    have q40 : ∀ t, Steps p.tables e below (s₁.setTop (mkF m 89 #[.val (.ref a1), .val (.int (Int32.ofNat i)), .val (.ref a2), .val (.int (0 : Int32)), .val (.int (Int32.ofNat 3)), .val (.int (0 : Int32)), .unset, .unset] [(.int (g 0)), (.int (f (i + 0)))])) t → Steps p.tables e below (s₁.setTop (entryFrame m #[(.ref a1), (.int (Int32.ofNat i)), (.ref a2), (.int (0 : Int32)), (.int (Int32.ofNat 3))] 8)) t := fun t k => q39 t (by
        show Steps p.tables e below (s₁.setTop (mkF m 88 #[.val (.ref a1), .val (.int (Int32.ofNat i)), .val (.ref a2), .val (.int (0 : Int32)), .val (.int (Int32.ofNat 3)), .val (.int (0 : Int32)), .unset, .unset] [(.int (0 : Int32)), (.ref a2), (.int (f (i + 0)))])) _
        refine X0.baloadBytes hx (j := (0 : Int32)) (v := (.int (g 0))) (by rw [e0]; exact Ar2.1) (State.isArrayOf_alike hZ.alike Ar2.2.1) Ar2.2.2 (by rw [S2]; decide) (H2 0 (by rw [S2]; decide)) (g := (mkF m 88 #[.val (.ref a1), .val (.int (Int32.ofNat i)), .val (.ref a2), .val (.int (0 : Int32)), .val (.int (Int32.ofNat 3)), .val (.int (0 : Int32)), .unset, .unset] [(.int (0 : Int32)), (.ref a2), (.int (f (i + 0)))])) rfl rfl (hb hby d3_88) _ ?_
        show Steps p.tables e below (s₁.setTop (mkF m 89 #[.val (.ref a1), .val (.int (Int32.ofNat i)), .val (.ref a2), .val (.int (0 : Int32)), .val (.int (Int32.ofNat 3)), .val (.int (0 : Int32)), .unset, .unset] [(.int (g 0)), (.int (f (i + 0)))])) _
        exact k)
    by_cases k41 : (f (i + 0)) = (g 0)
    · skip
      have q42 : ∀ t, Steps p.tables e below (s₁.setTop (mkF m 70 #[.val (.ref a1), .val (.int (Int32.ofNat i)), .val (.ref a2), .val (.int (0 : Int32)), .val (.int (Int32.ofNat 3)), .val (.int ((0 : Int32) + (1 : Int32))), .unset, .unset] [])) t → Steps p.tables e below (s₁.setTop (entryFrame m #[(.ref a1), (.int (Int32.ofNat i)), (.ref a2), (.int (0 : Int32)), (.int (Int32.ofNat 3))] 8)) t := fun t k => q40 t (by
          show Steps p.tables e below (s₁.setTop (mkF m 89 #[.val (.ref a1), .val (.int (Int32.ofNat i)), .val (.ref a2), .val (.int (0 : Int32)), .val (.int (Int32.ofNat 3)), .val (.int (0 : Int32)), .unset, .unset] [(.int (g 0)), (.int (f (i + 0)))])) _
          refine XS.icmpYes X0.here hx rfl (pc0 := 89) (pc' := 95) rfl (hb hby d3_89) rfl (XT.ii_eq_t (k41 : (f (i + 0)) = (g 0))) (by decide) (by decide) ?_
          show Steps p.tables e below (s₁.setTop (mkF m 95 #[.val (.ref a1), .val (.int (Int32.ofNat i)), .val (.ref a2), .val (.int (0 : Int32)), .val (.int (Int32.ofNat 3)), .val (.int (0 : Int32)), .unset, .unset] [])) _
          refine XS.iinc X0.here hx rfl (hb hby d3_95) rfl (l' := #[.val (.ref a1), .val (.int (Int32.ofNat i)), .val (.ref a2), .val (.int (0 : Int32)), .val (.int (Int32.ofNat 3)), .val (.int ((0 : Int32) + (1 : Int32))), .unset, .unset]) rfl ?_
          show Steps p.tables e below (s₁.setTop (mkF m 98 #[.val (.ref a1), .val (.int (Int32.ofNat i)), .val (.ref a2), .val (.int (0 : Int32)), .val (.int (Int32.ofNat 3)), .val (.int ((0 : Int32) + (1 : Int32))), .unset, .unset] [])) _
          refine XS.goto X0.here hx rfl (pc0 := 98) (pc' := 70) rfl (hb hby d3_98) (by decide) (by decide) ?_
          show Steps p.tables e below (s₁.setTop (mkF m 70 #[.val (.ref a1), .val (.int (Int32.ofNat i)), .val (.ref a2), .val (.int (0 : Int32)), .val (.int (Int32.ofNat 3)), .val (.int ((0 : Int32) + (1 : Int32))), .unset, .unset] [])) _
          exact k)
      have q43 : ∀ t, Steps p.tables e below (s₁.setTop (mkF m 70 #[.val (.ref a1), .val (.int (Int32.ofNat i)), .val (.ref a2), .val (.int (0 : Int32)), .val (.int (Int32.ofNat 3)), .val (.int (1 : Int32)), .unset, .unset] [])) t → Steps p.tables e below (s₁.setTop (entryFrame m #[(.ref a1), (.int (Int32.ofNat i)), (.ref a2), (.int (0 : Int32)), (.int (Int32.ofNat 3))] 8)) t := fun t k => q42 t (by rw [show ((0 : Int32) + (1 : Int32)) = (1 : Int32) from ((by decide : (1 : Int32) = (0 : Int32) + (1 : Int32))).symm]; exact k)
      have q44 : ∀ t, Steps p.tables e below (s₁.setTop (mkF m 82 #[.val (.ref a1), .val (.int (Int32.ofNat i)), .val (.ref a2), .val (.int (0 : Int32)), .val (.int (Int32.ofNat 3)), .val (.int (1 : Int32)), .unset, .unset] [(.int ((Int32.ofNat i) + (1 : Int32))), (.ref a1)])) t → Steps p.tables e below (s₁.setTop (entryFrame m #[(.ref a1), (.int (Int32.ofNat i)), (.ref a2), (.int (0 : Int32)), (.int (Int32.ofNat 3))] 8)) t := fun t k => q43 t (by
          show Steps p.tables e below (s₁.setTop (mkF m 70 #[.val (.ref a1), .val (.int (Int32.ofNat i)), .val (.ref a2), .val (.int (0 : Int32)), .val (.int (Int32.ofNat 3)), .val (.int (1 : Int32)), .unset, .unset] [])) _
          refine XS.iload X0.here hx rfl (hb hby d3_70) rfl ?_
          show Steps p.tables e below (s₁.setTop (mkF m 72 #[.val (.ref a1), .val (.int (Int32.ofNat i)), .val (.ref a2), .val (.int (0 : Int32)), .val (.int (Int32.ofNat 3)), .val (.int (1 : Int32)), .unset, .unset] [(.int (1 : Int32))])) _
          refine XS.iload X0.here hx rfl (hb hby d3_72) rfl ?_
          show Steps p.tables e below (s₁.setTop (mkF m 74 #[.val (.ref a1), .val (.int (Int32.ofNat i)), .val (.ref a2), .val (.int (0 : Int32)), .val (.int (Int32.ofNat 3)), .val (.int (1 : Int32)), .unset, .unset] [(.int (Int32.ofNat 3)), (.int (1 : Int32))])) _
          refine XS.icmpNo X0.here hx rfl (hb hby d3_74) rfl (XT.ii_ge_f (by decide : (1 : Int32) < (Int32.ofNat 3))) ?_
          show Steps p.tables e below (s₁.setTop (mkF m 77 #[.val (.ref a1), .val (.int (Int32.ofNat i)), .val (.ref a2), .val (.int (0 : Int32)), .val (.int (Int32.ofNat 3)), .val (.int (1 : Int32)), .unset, .unset] [])) _
          refine XS.aloadN X0.here hx rfl (hb hby d3_77) rfl rfl ?_
          show Steps p.tables e below (s₁.setTop (mkF m 78 #[.val (.ref a1), .val (.int (Int32.ofNat i)), .val (.ref a2), .val (.int (0 : Int32)), .val (.int (Int32.ofNat 3)), .val (.int (1 : Int32)), .unset, .unset] [(.ref a1)])) _
          refine XS.iloadN X0.here hx rfl (hb hby d3_78) rfl ?_
          show Steps p.tables e below (s₁.setTop (mkF m 79 #[.val (.ref a1), .val (.int (Int32.ofNat i)), .val (.ref a2), .val (.int (0 : Int32)), .val (.int (Int32.ofNat 3)), .val (.int (1 : Int32)), .unset, .unset] [(.int (Int32.ofNat i)), (.ref a1)])) _
          refine XS.iload X0.here hx rfl (hb hby d3_79) rfl ?_
          show Steps p.tables e below (s₁.setTop (mkF m 81 #[.val (.ref a1), .val (.int (Int32.ofNat i)), .val (.ref a2), .val (.int (0 : Int32)), .val (.int (Int32.ofNat 3)), .val (.int (1 : Int32)), .unset, .unset] [(.int (1 : Int32)), (.int (Int32.ofNat i)), (.ref a1)])) _
          refine XS.iadd X0.here hx rfl (hb hby d3_81) rfl ?_
          show Steps p.tables e below (s₁.setTop (mkF m 82 #[.val (.ref a1), .val (.int (Int32.ofNat i)), .val (.ref a2), .val (.int (0 : Int32)), .val (.int (Int32.ofNat 3)), .val (.int (1 : Int32)), .unset, .unset] [(.int ((Int32.ofNat i) + (1 : Int32))), (.ref a1)])) _
          exact k)
      have q45 : ∀ t, Steps p.tables e below (s₁.setTop (mkF m 82 #[.val (.ref a1), .val (.int (Int32.ofNat i)), .val (.ref a2), .val (.int (0 : Int32)), .val (.int (Int32.ofNat 3)), .val (.int (1 : Int32)), .unset, .unset] [(.int (Int32.ofNat (i + 1))), (.ref a1)])) t → Steps p.tables e below (s₁.setTop (entryFrame m #[(.ref a1), (.int (Int32.ofNat i)), (.ref a2), (.int (0 : Int32)), (.int (Int32.ofNat 3))] 8)) t := fun t k => q44 t (by rw [show ((Int32.ofNat i) + (1 : Int32)) = (Int32.ofNat (i + 1)) from (own_one i).symm]; exact k)
      have q46 : ∀ t, Steps p.tables e below (s₁.setTop (mkF m 88 #[.val (.ref a1), .val (.int (Int32.ofNat i)), .val (.ref a2), .val (.int (0 : Int32)), .val (.int (Int32.ofNat 3)), .val (.int (1 : Int32)), .unset, .unset] [(.int ((0 : Int32) + (1 : Int32))), (.ref a2), (.int (f (i + 1)))])) t → Steps p.tables e below (s₁.setTop (entryFrame m #[(.ref a1), (.int (Int32.ofNat i)), (.ref a2), (.int (0 : Int32)), (.int (Int32.ofNat 3))] 8)) t := fun t k => q45 t (by
          show Steps p.tables e below (s₁.setTop (mkF m 82 #[.val (.ref a1), .val (.int (Int32.ofNat i)), .val (.ref a2), .val (.int (0 : Int32)), .val (.int (Int32.ofNat 3)), .val (.int (1 : Int32)), .unset, .unset] [(.int (Int32.ofNat (i + 1))), (.ref a1)])) _
          refine X0.baloadBytes hx (j := (Int32.ofNat (i + 1))) (v := (.int (f (i + 1)))) (by rw [e0]; exact Ar1.1) (State.isArrayOf_alike hZ.alike Ar1.2.1) Ar1.2.2 (own_in S1 (by omega) (by omega)) (own_hat S1 H1 (by omega) (by omega)) (g := (mkF m 82 #[.val (.ref a1), .val (.int (Int32.ofNat i)), .val (.ref a2), .val (.int (0 : Int32)), .val (.int (Int32.ofNat 3)), .val (.int (1 : Int32)), .unset, .unset] [(.int (Int32.ofNat (i + 1))), (.ref a1)])) rfl rfl (hb hby d3_82) _ ?_
          show Steps p.tables e below (s₁.setTop (mkF m 83 #[.val (.ref a1), .val (.int (Int32.ofNat i)), .val (.ref a2), .val (.int (0 : Int32)), .val (.int (Int32.ofNat 3)), .val (.int (1 : Int32)), .unset, .unset] [(.int (f (i + 1)))])) _
          refine XS.aloadN X0.here hx rfl (hb hby d3_83) rfl rfl ?_
          show Steps p.tables e below (s₁.setTop (mkF m 84 #[.val (.ref a1), .val (.int (Int32.ofNat i)), .val (.ref a2), .val (.int (0 : Int32)), .val (.int (Int32.ofNat 3)), .val (.int (1 : Int32)), .unset, .unset] [(.ref a2), (.int (f (i + 1)))])) _
          refine XS.iloadN X0.here hx rfl (hb hby d3_84) rfl ?_
          show Steps p.tables e below (s₁.setTop (mkF m 85 #[.val (.ref a1), .val (.int (Int32.ofNat i)), .val (.ref a2), .val (.int (0 : Int32)), .val (.int (Int32.ofNat 3)), .val (.int (1 : Int32)), .unset, .unset] [(.int (0 : Int32)), (.ref a2), (.int (f (i + 1)))])) _
          refine XS.iload X0.here hx rfl (hb hby d3_85) rfl ?_
          show Steps p.tables e below (s₁.setTop (mkF m 87 #[.val (.ref a1), .val (.int (Int32.ofNat i)), .val (.ref a2), .val (.int (0 : Int32)), .val (.int (Int32.ofNat 3)), .val (.int (1 : Int32)), .unset, .unset] [(.int (1 : Int32)), (.int (0 : Int32)), (.ref a2), (.int (f (i + 1)))])) _
          refine XS.iadd X0.here hx rfl (hb hby d3_87) rfl ?_
          show Steps p.tables e below (s₁.setTop (mkF m 88 #[.val (.ref a1), .val (.int (Int32.ofNat i)), .val (.ref a2), .val (.int (0 : Int32)), .val (.int (Int32.ofNat 3)), .val (.int (1 : Int32)), .unset, .unset] [(.int ((0 : Int32) + (1 : Int32))), (.ref a2), (.int (f (i + 1)))])) _
          exact k)
      have q47 : ∀ t, Steps p.tables e below (s₁.setTop (mkF m 88 #[.val (.ref a1), .val (.int (Int32.ofNat i)), .val (.ref a2), .val (.int (0 : Int32)), .val (.int (Int32.ofNat 3)), .val (.int (1 : Int32)), .unset, .unset] [(.int (1 : Int32)), (.ref a2), (.int (f (i + 1)))])) t → Steps p.tables e below (s₁.setTop (entryFrame m #[(.ref a1), (.int (Int32.ofNat i)), (.ref a2), (.int (0 : Int32)), (.int (Int32.ofNat 3))] 8)) t := fun t k => q46 t (by rw [show ((0 : Int32) + (1 : Int32)) = (1 : Int32) from ((by decide : (1 : Int32) = (0 : Int32) + (1 : Int32))).symm]; exact k)
      have q48 : ∀ t, Steps p.tables e below (s₁.setTop (mkF m 89 #[.val (.ref a1), .val (.int (Int32.ofNat i)), .val (.ref a2), .val (.int (0 : Int32)), .val (.int (Int32.ofNat 3)), .val (.int (1 : Int32)), .unset, .unset] [(.int (g 1)), (.int (f (i + 1)))])) t → Steps p.tables e below (s₁.setTop (entryFrame m #[(.ref a1), (.int (Int32.ofNat i)), (.ref a2), (.int (0 : Int32)), (.int (Int32.ofNat 3))] 8)) t := fun t k => q47 t (by
          show Steps p.tables e below (s₁.setTop (mkF m 88 #[.val (.ref a1), .val (.int (Int32.ofNat i)), .val (.ref a2), .val (.int (0 : Int32)), .val (.int (Int32.ofNat 3)), .val (.int (1 : Int32)), .unset, .unset] [(.int (1 : Int32)), (.ref a2), (.int (f (i + 1)))])) _
          refine X0.baloadBytes hx (j := (1 : Int32)) (v := (.int (g 1))) (by rw [e0]; exact Ar2.1) (State.isArrayOf_alike hZ.alike Ar2.2.1) Ar2.2.2 (by rw [S2]; decide) (H2 1 (by rw [S2]; decide)) (g := (mkF m 88 #[.val (.ref a1), .val (.int (Int32.ofNat i)), .val (.ref a2), .val (.int (0 : Int32)), .val (.int (Int32.ofNat 3)), .val (.int (1 : Int32)), .unset, .unset] [(.int (1 : Int32)), (.ref a2), (.int (f (i + 1)))])) rfl rfl (hb hby d3_88) _ ?_
          show Steps p.tables e below (s₁.setTop (mkF m 89 #[.val (.ref a1), .val (.int (Int32.ofNat i)), .val (.ref a2), .val (.int (0 : Int32)), .val (.int (Int32.ofNat 3)), .val (.int (1 : Int32)), .unset, .unset] [(.int (g 1)), (.int (f (i + 1)))])) _
          exact k)
      by_cases k49 : (f (i + 1)) = (g 1)
      · skip
        have q50 : ∀ t, Steps p.tables e below (s₁.setTop (mkF m 70 #[.val (.ref a1), .val (.int (Int32.ofNat i)), .val (.ref a2), .val (.int (0 : Int32)), .val (.int (Int32.ofNat 3)), .val (.int ((1 : Int32) + (1 : Int32))), .unset, .unset] [])) t → Steps p.tables e below (s₁.setTop (entryFrame m #[(.ref a1), (.int (Int32.ofNat i)), (.ref a2), (.int (0 : Int32)), (.int (Int32.ofNat 3))] 8)) t := fun t k => q48 t (by
            show Steps p.tables e below (s₁.setTop (mkF m 89 #[.val (.ref a1), .val (.int (Int32.ofNat i)), .val (.ref a2), .val (.int (0 : Int32)), .val (.int (Int32.ofNat 3)), .val (.int (1 : Int32)), .unset, .unset] [(.int (g 1)), (.int (f (i + 1)))])) _
            refine XS.icmpYes X0.here hx rfl (pc0 := 89) (pc' := 95) rfl (hb hby d3_89) rfl (XT.ii_eq_t (k49 : (f (i + 1)) = (g 1))) (by decide) (by decide) ?_
            show Steps p.tables e below (s₁.setTop (mkF m 95 #[.val (.ref a1), .val (.int (Int32.ofNat i)), .val (.ref a2), .val (.int (0 : Int32)), .val (.int (Int32.ofNat 3)), .val (.int (1 : Int32)), .unset, .unset] [])) _
            refine XS.iinc X0.here hx rfl (hb hby d3_95) rfl (l' := #[.val (.ref a1), .val (.int (Int32.ofNat i)), .val (.ref a2), .val (.int (0 : Int32)), .val (.int (Int32.ofNat 3)), .val (.int ((1 : Int32) + (1 : Int32))), .unset, .unset]) rfl ?_
            show Steps p.tables e below (s₁.setTop (mkF m 98 #[.val (.ref a1), .val (.int (Int32.ofNat i)), .val (.ref a2), .val (.int (0 : Int32)), .val (.int (Int32.ofNat 3)), .val (.int ((1 : Int32) + (1 : Int32))), .unset, .unset] [])) _
            refine XS.goto X0.here hx rfl (pc0 := 98) (pc' := 70) rfl (hb hby d3_98) (by decide) (by decide) ?_
            show Steps p.tables e below (s₁.setTop (mkF m 70 #[.val (.ref a1), .val (.int (Int32.ofNat i)), .val (.ref a2), .val (.int (0 : Int32)), .val (.int (Int32.ofNat 3)), .val (.int ((1 : Int32) + (1 : Int32))), .unset, .unset] [])) _
            exact k)
        have q51 : ∀ t, Steps p.tables e below (s₁.setTop (mkF m 70 #[.val (.ref a1), .val (.int (Int32.ofNat i)), .val (.ref a2), .val (.int (0 : Int32)), .val (.int (Int32.ofNat 3)), .val (.int (2 : Int32)), .unset, .unset] [])) t → Steps p.tables e below (s₁.setTop (entryFrame m #[(.ref a1), (.int (Int32.ofNat i)), (.ref a2), (.int (0 : Int32)), (.int (Int32.ofNat 3))] 8)) t := fun t k => q50 t (by rw [show ((1 : Int32) + (1 : Int32)) = (2 : Int32) from ((by decide : (2 : Int32) = (1 : Int32) + (1 : Int32))).symm]; exact k)
        have q52 : ∀ t, Steps p.tables e below (s₁.setTop (mkF m 82 #[.val (.ref a1), .val (.int (Int32.ofNat i)), .val (.ref a2), .val (.int (0 : Int32)), .val (.int (Int32.ofNat 3)), .val (.int (2 : Int32)), .unset, .unset] [(.int ((Int32.ofNat i) + (2 : Int32))), (.ref a1)])) t → Steps p.tables e below (s₁.setTop (entryFrame m #[(.ref a1), (.int (Int32.ofNat i)), (.ref a2), (.int (0 : Int32)), (.int (Int32.ofNat 3))] 8)) t := fun t k => q51 t (by
            show Steps p.tables e below (s₁.setTop (mkF m 70 #[.val (.ref a1), .val (.int (Int32.ofNat i)), .val (.ref a2), .val (.int (0 : Int32)), .val (.int (Int32.ofNat 3)), .val (.int (2 : Int32)), .unset, .unset] [])) _
            refine XS.iload X0.here hx rfl (hb hby d3_70) rfl ?_
            show Steps p.tables e below (s₁.setTop (mkF m 72 #[.val (.ref a1), .val (.int (Int32.ofNat i)), .val (.ref a2), .val (.int (0 : Int32)), .val (.int (Int32.ofNat 3)), .val (.int (2 : Int32)), .unset, .unset] [(.int (2 : Int32))])) _
            refine XS.iload X0.here hx rfl (hb hby d3_72) rfl ?_
            show Steps p.tables e below (s₁.setTop (mkF m 74 #[.val (.ref a1), .val (.int (Int32.ofNat i)), .val (.ref a2), .val (.int (0 : Int32)), .val (.int (Int32.ofNat 3)), .val (.int (2 : Int32)), .unset, .unset] [(.int (Int32.ofNat 3)), (.int (2 : Int32))])) _
            refine XS.icmpNo X0.here hx rfl (hb hby d3_74) rfl (XT.ii_ge_f (by decide : (2 : Int32) < (Int32.ofNat 3))) ?_
            show Steps p.tables e below (s₁.setTop (mkF m 77 #[.val (.ref a1), .val (.int (Int32.ofNat i)), .val (.ref a2), .val (.int (0 : Int32)), .val (.int (Int32.ofNat 3)), .val (.int (2 : Int32)), .unset, .unset] [])) _
            refine XS.aloadN X0.here hx rfl (hb hby d3_77) rfl rfl ?_
            show Steps p.tables e below (s₁.setTop (mkF m 78 #[.val (.ref a1), .val (.int (Int32.ofNat i)), .val (.ref a2), .val (.int (0 : Int32)), .val (.int (Int32.ofNat 3)), .val (.int (2 : Int32)), .unset, .unset] [(.ref a1)])) _
            refine XS.iloadN X0.here hx rfl (hb hby d3_78) rfl ?_
            show Steps p.tables e below (s₁.setTop (mkF m 79 #[.val (.ref a1), .val (.int (Int32.ofNat i)), .val (.ref a2), .val (.int (0 : Int32)), .val (.int (Int32.ofNat 3)), .val (.int (2 : Int32)), .unset, .unset] [(.int (Int32.ofNat i)), (.ref a1)])) _
            refine XS.iload X0.here hx rfl (hb hby d3_79) rfl ?_
            show Steps p.tables e below (s₁.setTop (mkF m 81 #[.val (.ref a1), .val (.int (Int32.ofNat i)), .val (.ref a2), .val (.int (0 : Int32)), .val (.int (Int32.ofNat 3)), .val (.int (2 : Int32)), .unset, .unset] [(.int (2 : Int32)), (.int (Int32.ofNat i)), (.ref a1)])) _
            refine XS.iadd X0.here hx rfl (hb hby d3_81) rfl ?_
            show Steps p.tables e below (s₁.setTop (mkF m 82 #[.val (.ref a1), .val (.int (Int32.ofNat i)), .val (.ref a2), .val (.int (0 : Int32)), .val (.int (Int32.ofNat 3)), .val (.int (2 : Int32)), .unset, .unset] [(.int ((Int32.ofNat i) + (2 : Int32))), (.ref a1)])) _
            exact k)
        have q53 : ∀ t, Steps p.tables e below (s₁.setTop (mkF m 82 #[.val (.ref a1), .val (.int (Int32.ofNat i)), .val (.ref a2), .val (.int (0 : Int32)), .val (.int (Int32.ofNat 3)), .val (.int (2 : Int32)), .unset, .unset] [(.int (Int32.ofNat (i + 2))), (.ref a1)])) t → Steps p.tables e below (s₁.setTop (entryFrame m #[(.ref a1), (.int (Int32.ofNat i)), (.ref a2), (.int (0 : Int32)), (.int (Int32.ofNat 3))] 8)) t := fun t k => q52 t (by rw [show ((Int32.ofNat i) + (2 : Int32)) = (Int32.ofNat (i + 2)) from (own_two i).symm]; exact k)
        have q54 : ∀ t, Steps p.tables e below (s₁.setTop (mkF m 88 #[.val (.ref a1), .val (.int (Int32.ofNat i)), .val (.ref a2), .val (.int (0 : Int32)), .val (.int (Int32.ofNat 3)), .val (.int (2 : Int32)), .unset, .unset] [(.int ((0 : Int32) + (2 : Int32))), (.ref a2), (.int (f (i + 2)))])) t → Steps p.tables e below (s₁.setTop (entryFrame m #[(.ref a1), (.int (Int32.ofNat i)), (.ref a2), (.int (0 : Int32)), (.int (Int32.ofNat 3))] 8)) t := fun t k => q53 t (by
            show Steps p.tables e below (s₁.setTop (mkF m 82 #[.val (.ref a1), .val (.int (Int32.ofNat i)), .val (.ref a2), .val (.int (0 : Int32)), .val (.int (Int32.ofNat 3)), .val (.int (2 : Int32)), .unset, .unset] [(.int (Int32.ofNat (i + 2))), (.ref a1)])) _
            refine X0.baloadBytes hx (j := (Int32.ofNat (i + 2))) (v := (.int (f (i + 2)))) (by rw [e0]; exact Ar1.1) (State.isArrayOf_alike hZ.alike Ar1.2.1) Ar1.2.2 (own_in S1 (by omega) (by omega)) (own_hat S1 H1 (by omega) (by omega)) (g := (mkF m 82 #[.val (.ref a1), .val (.int (Int32.ofNat i)), .val (.ref a2), .val (.int (0 : Int32)), .val (.int (Int32.ofNat 3)), .val (.int (2 : Int32)), .unset, .unset] [(.int (Int32.ofNat (i + 2))), (.ref a1)])) rfl rfl (hb hby d3_82) _ ?_
            show Steps p.tables e below (s₁.setTop (mkF m 83 #[.val (.ref a1), .val (.int (Int32.ofNat i)), .val (.ref a2), .val (.int (0 : Int32)), .val (.int (Int32.ofNat 3)), .val (.int (2 : Int32)), .unset, .unset] [(.int (f (i + 2)))])) _
            refine XS.aloadN X0.here hx rfl (hb hby d3_83) rfl rfl ?_
            show Steps p.tables e below (s₁.setTop (mkF m 84 #[.val (.ref a1), .val (.int (Int32.ofNat i)), .val (.ref a2), .val (.int (0 : Int32)), .val (.int (Int32.ofNat 3)), .val (.int (2 : Int32)), .unset, .unset] [(.ref a2), (.int (f (i + 2)))])) _
            refine XS.iloadN X0.here hx rfl (hb hby d3_84) rfl ?_
            show Steps p.tables e below (s₁.setTop (mkF m 85 #[.val (.ref a1), .val (.int (Int32.ofNat i)), .val (.ref a2), .val (.int (0 : Int32)), .val (.int (Int32.ofNat 3)), .val (.int (2 : Int32)), .unset, .unset] [(.int (0 : Int32)), (.ref a2), (.int (f (i + 2)))])) _
            refine XS.iload X0.here hx rfl (hb hby d3_85) rfl ?_
            show Steps p.tables e below (s₁.setTop (mkF m 87 #[.val (.ref a1), .val (.int (Int32.ofNat i)), .val (.ref a2), .val (.int (0 : Int32)), .val (.int (Int32.ofNat 3)), .val (.int (2 : Int32)), .unset, .unset] [(.int (2 : Int32)), (.int (0 : Int32)), (.ref a2), (.int (f (i + 2)))])) _
            refine XS.iadd X0.here hx rfl (hb hby d3_87) rfl ?_
            show Steps p.tables e below (s₁.setTop (mkF m 88 #[.val (.ref a1), .val (.int (Int32.ofNat i)), .val (.ref a2), .val (.int (0 : Int32)), .val (.int (Int32.ofNat 3)), .val (.int (2 : Int32)), .unset, .unset] [(.int ((0 : Int32) + (2 : Int32))), (.ref a2), (.int (f (i + 2)))])) _
            exact k)
        have q55 : ∀ t, Steps p.tables e below (s₁.setTop (mkF m 88 #[.val (.ref a1), .val (.int (Int32.ofNat i)), .val (.ref a2), .val (.int (0 : Int32)), .val (.int (Int32.ofNat 3)), .val (.int (2 : Int32)), .unset, .unset] [(.int (2 : Int32)), (.ref a2), (.int (f (i + 2)))])) t → Steps p.tables e below (s₁.setTop (entryFrame m #[(.ref a1), (.int (Int32.ofNat i)), (.ref a2), (.int (0 : Int32)), (.int (Int32.ofNat 3))] 8)) t := fun t k => q54 t (by rw [show ((0 : Int32) + (2 : Int32)) = (2 : Int32) from ((by decide : (2 : Int32) = (0 : Int32) + (2 : Int32))).symm]; exact k)
        have q56 : ∀ t, Steps p.tables e below (s₁.setTop (mkF m 89 #[.val (.ref a1), .val (.int (Int32.ofNat i)), .val (.ref a2), .val (.int (0 : Int32)), .val (.int (Int32.ofNat 3)), .val (.int (2 : Int32)), .unset, .unset] [(.int (g 2)), (.int (f (i + 2)))])) t → Steps p.tables e below (s₁.setTop (entryFrame m #[(.ref a1), (.int (Int32.ofNat i)), (.ref a2), (.int (0 : Int32)), (.int (Int32.ofNat 3))] 8)) t := fun t k => q55 t (by
            show Steps p.tables e below (s₁.setTop (mkF m 88 #[.val (.ref a1), .val (.int (Int32.ofNat i)), .val (.ref a2), .val (.int (0 : Int32)), .val (.int (Int32.ofNat 3)), .val (.int (2 : Int32)), .unset, .unset] [(.int (2 : Int32)), (.ref a2), (.int (f (i + 2)))])) _
            refine X0.baloadBytes hx (j := (2 : Int32)) (v := (.int (g 2))) (by rw [e0]; exact Ar2.1) (State.isArrayOf_alike hZ.alike Ar2.2.1) Ar2.2.2 (by rw [S2]; decide) (H2 2 (by rw [S2]; decide)) (g := (mkF m 88 #[.val (.ref a1), .val (.int (Int32.ofNat i)), .val (.ref a2), .val (.int (0 : Int32)), .val (.int (Int32.ofNat 3)), .val (.int (2 : Int32)), .unset, .unset] [(.int (2 : Int32)), (.ref a2), (.int (f (i + 2)))])) rfl rfl (hb hby d3_88) _ ?_
            show Steps p.tables e below (s₁.setTop (mkF m 89 #[.val (.ref a1), .val (.int (Int32.ofNat i)), .val (.ref a2), .val (.int (0 : Int32)), .val (.int (Int32.ofNat 3)), .val (.int (2 : Int32)), .unset, .unset] [(.int (g 2)), (.int (f (i + 2)))])) _
            exact k)
        by_cases k57 : (f (i + 2)) = (g 2)
        · skip
          have q58 : ∀ t, Steps p.tables e below (s₁.setTop (mkF m 70 #[.val (.ref a1), .val (.int (Int32.ofNat i)), .val (.ref a2), .val (.int (0 : Int32)), .val (.int (Int32.ofNat 3)), .val (.int ((2 : Int32) + (1 : Int32))), .unset, .unset] [])) t → Steps p.tables e below (s₁.setTop (entryFrame m #[(.ref a1), (.int (Int32.ofNat i)), (.ref a2), (.int (0 : Int32)), (.int (Int32.ofNat 3))] 8)) t := fun t k => q56 t (by
              show Steps p.tables e below (s₁.setTop (mkF m 89 #[.val (.ref a1), .val (.int (Int32.ofNat i)), .val (.ref a2), .val (.int (0 : Int32)), .val (.int (Int32.ofNat 3)), .val (.int (2 : Int32)), .unset, .unset] [(.int (g 2)), (.int (f (i + 2)))])) _
              refine XS.icmpYes X0.here hx rfl (pc0 := 89) (pc' := 95) rfl (hb hby d3_89) rfl (XT.ii_eq_t (k57 : (f (i + 2)) = (g 2))) (by decide) (by decide) ?_
              show Steps p.tables e below (s₁.setTop (mkF m 95 #[.val (.ref a1), .val (.int (Int32.ofNat i)), .val (.ref a2), .val (.int (0 : Int32)), .val (.int (Int32.ofNat 3)), .val (.int (2 : Int32)), .unset, .unset] [])) _
              refine XS.iinc X0.here hx rfl (hb hby d3_95) rfl (l' := #[.val (.ref a1), .val (.int (Int32.ofNat i)), .val (.ref a2), .val (.int (0 : Int32)), .val (.int (Int32.ofNat 3)), .val (.int ((2 : Int32) + (1 : Int32))), .unset, .unset]) rfl ?_
              show Steps p.tables e below (s₁.setTop (mkF m 98 #[.val (.ref a1), .val (.int (Int32.ofNat i)), .val (.ref a2), .val (.int (0 : Int32)), .val (.int (Int32.ofNat 3)), .val (.int ((2 : Int32) + (1 : Int32))), .unset, .unset] [])) _
              refine XS.goto X0.here hx rfl (pc0 := 98) (pc' := 70) rfl (hb hby d3_98) (by decide) (by decide) ?_
              show Steps p.tables e below (s₁.setTop (mkF m 70 #[.val (.ref a1), .val (.int (Int32.ofNat i)), .val (.ref a2), .val (.int (0 : Int32)), .val (.int (Int32.ofNat 3)), .val (.int ((2 : Int32) + (1 : Int32))), .unset, .unset] [])) _
              exact k)
          have q59 : ∀ t, Steps p.tables e below (s₁.setTop (mkF m 70 #[.val (.ref a1), .val (.int (Int32.ofNat i)), .val (.ref a2), .val (.int (0 : Int32)), .val (.int (Int32.ofNat 3)), .val (.int (3 : Int32)), .unset, .unset] [])) t → Steps p.tables e below (s₁.setTop (entryFrame m #[(.ref a1), (.int (Int32.ofNat i)), (.ref a2), (.int (0 : Int32)), (.int (Int32.ofNat 3))] 8)) t := fun t k => q58 t (by rw [show ((2 : Int32) + (1 : Int32)) = (3 : Int32) from ((by decide : (3 : Int32) = (2 : Int32) + (1 : Int32))).symm]; exact k)
          have q60 : ∀ t, Steps p.tables e below (s₁.setTop (mkF m 102 #[.val (.ref a1), .val (.int (Int32.ofNat i)), .val (.ref a2), .val (.int (0 : Int32)), .val (.int (Int32.ofNat 3)), .val (.int (3 : Int32)), .unset, .unset] [(.int (-1 : Int32))])) t → Steps p.tables e below (s₁.setTop (entryFrame m #[(.ref a1), (.int (Int32.ofNat i)), (.ref a2), (.int (0 : Int32)), (.int (Int32.ofNat 3))] 8)) t := fun t k => q59 t (by
              show Steps p.tables e below (s₁.setTop (mkF m 70 #[.val (.ref a1), .val (.int (Int32.ofNat i)), .val (.ref a2), .val (.int (0 : Int32)), .val (.int (Int32.ofNat 3)), .val (.int (3 : Int32)), .unset, .unset] [])) _
              refine XS.iload X0.here hx rfl (hb hby d3_70) rfl ?_
              show Steps p.tables e below (s₁.setTop (mkF m 72 #[.val (.ref a1), .val (.int (Int32.ofNat i)), .val (.ref a2), .val (.int (0 : Int32)), .val (.int (Int32.ofNat 3)), .val (.int (3 : Int32)), .unset, .unset] [(.int (3 : Int32))])) _
              refine XS.iload X0.here hx rfl (hb hby d3_72) rfl ?_
              show Steps p.tables e below (s₁.setTop (mkF m 74 #[.val (.ref a1), .val (.int (Int32.ofNat i)), .val (.ref a2), .val (.int (0 : Int32)), .val (.int (Int32.ofNat 3)), .val (.int (3 : Int32)), .unset, .unset] [(.int (Int32.ofNat 3)), (.int (3 : Int32))])) _
              refine XS.icmpYes X0.here hx rfl (pc0 := 74) (pc' := 101) rfl (hb hby d3_74) rfl (XT.ii_ge_t (by decide : ¬ ((3 : Int32) < (Int32.ofNat 3)))) (by decide) (by decide) ?_
              show Steps p.tables e below (s₁.setTop (mkF m 101 #[.val (.ref a1), .val (.int (Int32.ofNat i)), .val (.ref a2), .val (.int (0 : Int32)), .val (.int (Int32.ofNat 3)), .val (.int (3 : Int32)), .unset, .unset] [])) _
              refine XS.iconst X0.here hx rfl (hb hby d3_101) ?_
              show Steps p.tables e below (s₁.setTop (mkF m 102 #[.val (.ref a1), .val (.int (Int32.ofNat i)), .val (.ref a2), .val (.int (0 : Int32)), .val (.int (Int32.ofNat 3)), .val (.int (3 : Int32)), .unset, .unset] [(.int (-1 : Int32))])) _
              exact k)
          obtain ⟨fs, hr, hrun, hended, hW, hsame⟩ := X0.leave (v := some (.int (-1 : Int32))) (fun h => by rw [Bd.returns] at h; cases h)
          refine ⟨_, _, q60 _ ?_, hrun, hended, _, _, rfl, ?_, ⟨_, rfl⟩, hW, hsame.mono (by decide) (by decide)⟩
          · show Steps p.tables e below (s₁.setTop (mkF m 102 #[.val (.ref a1), .val (.int (Int32.ofNat i)), .val (.ref a2), .val (.int (0 : Int32)), .val (.int (Int32.ofNat 3)), .val (.int (3 : Int32)), .unset, .unset] [(.int (-1 : Int32))])) _
            exact retI X0 hx Bd.returns (hb hby d3_102) hr
          · show QN (own_mis f g i 3) h0 n0 _ s₁.heap _
            exact ⟨by rw [own_mis3, if_pos k41, if_pos k49, if_pos k57], N0, e0⟩
        · skip
          have q61 : ∀ t, Steps p.tables e below (s₁.setTop (mkF m 94 #[.val (.ref a1), .val (.int (Int32.ofNat i)), .val (.ref a2), .val (.int (0 : Int32)), .val (.int (Int32.ofNat 3)), .val (.int (2 : Int32)), .unset, .unset] [(.int (2 : Int32))])) t → Steps p.tables e below (s₁.setTop (entryFrame m #[(.ref a1), (.int (Int32.ofNat i)), (.ref a2), (.int (0 : Int32)), (.int (Int32.ofNat 3))] 8)) t := fun t k => q56 t (by
              show Steps p.tables e below (s₁.setTop (mkF m 89 #[.val (.ref a1), .val (.int (Int32.ofNat i)), .val (.ref a2), .val (.int (0 : Int32)), .val (.int (Int32.ofNat 3)), .val (.int (2 : Int32)), .unset, .unset] [(.int (g 2)), (.int (f (i + 2)))])) _
              refine XS.icmpNo X0.here hx rfl (hb hby d3_89) rfl (XT.ii_eq_f (k57 : ¬ ((f (i + 2)) = (g 2)))) ?_
              show Steps p.tables e below (s₁.setTop (mkF m 92 #[.val (.ref a1), .val (.int (Int32.ofNat i)), .val (.ref a2), .val (.int (0 : Int32)), .val (.int (Int32.ofNat 3)), .val (.int (2 : Int32)), .unset, .unset] [])) _
              refine XS.iload X0.here hx rfl (hb hby d3_92) rfl ?_
              show Steps p.tables e below (s₁.setTop (mkF m 94 #[.val (.ref a1), .val (.int (Int32.ofNat i)), .val (.ref a2), .val (.int (0 : Int32)), .val (.int (Int32.ofNat 3)), .val (.int (2 : Int32)), .unset, .unset] [(.int (2 : Int32))])) _
              exact k)
          obtain ⟨fs, hr, hrun, hended, hW, hsame⟩ := X0.leave (v := some (.int (2 : Int32))) (fun h => by rw [Bd.returns] at h; cases h)
          refine ⟨_, _, q61 _ ?_, hrun, hended, _, _, rfl, ?_, ⟨_, rfl⟩, hW, hsame.mono (by decide) (by decide)⟩
          · show Steps p.tables e below (s₁.setTop (mkF m 94 #[.val (.ref a1), .val (.int (Int32.ofNat i)), .val (.ref a2), .val (.int (0 : Int32)), .val (.int (Int32.ofNat 3)), .val (.int (2 : Int32)), .unset, .unset] [(.int (2 : Int32))])) _
            exact retI X0 hx Bd.returns (hb hby d3_94) hr
          · show QN (own_mis f g i 3) h0 n0 _ s₁.heap _
            exact ⟨by rw [own_mis3, if_pos k41, if_pos k49, if_neg k57], N0, e0⟩
      · skip
        have q62 : ∀ t, Steps p.tables e below (s₁.setTop (mkF m 94 #[.val (.ref a1), .val (.int (Int32.ofNat i)), .val (.ref a2), .val (.int (0 : Int32)), .val (.int (Int32.ofNat 3)), .val (.int (1 : Int32)), .unset, .unset] [(.int (1 : Int32))])) t → Steps p.tables e below (s₁.setTop (entryFrame m #[(.ref a1), (.int (Int32.ofNat i)), (.ref a2), (.int (0 : Int32)), (.int (Int32.ofNat 3))] 8)) t := fun t k => q48 t (by
            show Steps p.tables e below (s₁.setTop (mkF m 89 #[.val (.ref a1), .val (.int (Int32.ofNat i)), .val (.ref a2), .val (.int (0 : Int32)), .val (.int (Int32.ofNat 3)), .val (.int (1 : Int32)), .unset, .unset] [(.int (g 1)), (.int (f (i + 1)))])) _
            refine XS.icmpNo X0.here hx rfl (hb hby d3_89) rfl (XT.ii_eq_f (k49 : ¬ ((f (i + 1)) = (g 1)))) ?_
            show Steps p.tables e below (s₁.setTop (mkF m 92 #[.val (.ref a1), .val (.int (Int32.ofNat i)), .val (.ref a2), .val (.int (0 : Int32)), .val (.int (Int32.ofNat 3)), .val (.int (1 : Int32)), .unset, .unset] [])) _
            refine XS.iload X0.here hx rfl (hb hby d3_92) rfl ?_
            show Steps p.tables e below (s₁.setTop (mkF m 94 #[.val (.ref a1), .val (.int (Int32.ofNat i)), .val (.ref a2), .val (.int (0 : Int32)), .val (.int (Int32.ofNat 3)), .val (.int (1 : Int32)), .unset, .unset] [(.int (1 : Int32))])) _
            exact k)
        obtain ⟨fs, hr, hrun, hended, hW, hsame⟩ := X0.leave (v := some (.int (1 : Int32))) (fun h => by rw [Bd.returns] at h; cases h)
        refine ⟨_, _, q62 _ ?_, hrun, hended, _, _, rfl, ?_, ⟨_, rfl⟩, hW, hsame.mono (by decide) (by decide)⟩
        · show Steps p.tables e below (s₁.setTop (mkF m 94 #[.val (.ref a1), .val (.int (Int32.ofNat i)), .val (.ref a2), .val (.int (0 : Int32)), .val (.int (Int32.ofNat 3)), .val (.int (1 : Int32)), .unset, .unset] [(.int (1 : Int32))])) _
          exact retI X0 hx Bd.returns (hb hby d3_94) hr
        · show QN (own_mis f g i 3) h0 n0 _ s₁.heap _
          exact ⟨by rw [own_mis3, if_pos k41, if_neg k49], N0, e0⟩
    · skip
      have q63 : ∀ t, Steps p.tables e below (s₁.setTop (mkF m 94 #[.val (.ref a1), .val (.int (Int32.ofNat i)), .val (.ref a2), .val (.int (0 : Int32)), .val (.int (Int32.ofNat 3)), .val (.int (0 : Int32)), .unset, .unset] [(.int (0 : Int32))])) t → Steps p.tables e below (s₁.setTop (entryFrame m #[(.ref a1), (.int (Int32.ofNat i)), (.ref a2), (.int (0 : Int32)), (.int (Int32.ofNat 3))] 8)) t := fun t k => q40 t (by
          show Steps p.tables e below (s₁.setTop (mkF m 89 #[.val (.ref a1), .val (.int (Int32.ofNat i)), .val (.ref a2), .val (.int (0 : Int32)), .val (.int (Int32.ofNat 3)), .val (.int (0 : Int32)), .unset, .unset] [(.int (g 0)), (.int (f (i + 0)))])) _
          refine XS.icmpNo X0.here hx rfl (hb hby d3_89) rfl (XT.ii_eq_f (k41 : ¬ ((f (i + 0)) = (g 0)))) ?_
          show Steps p.tables e below (s₁.setTop (mkF m 92 #[.val (.ref a1), .val (.int (Int32.ofNat i)), .val (.ref a2), .val (.int (0 : Int32)), .val (.int (Int32.ofNat 3)), .val (.int (0 : Int32)), .unset, .unset] [])) _
          refine XS.iload X0.here hx rfl (hb hby d3_92) rfl ?_
          show Steps p.tables e below (s₁.setTop (mkF m 94 #[.val (.ref a1), .val (.int (Int32.ofNat i)), .val (.ref a2), .val (.int (0 : Int32)), .val (.int (Int32.ofNat 3)), .val (.int (0 : Int32)), .unset, .unset] [(.int (0 : Int32))])) _
          exact k)
      obtain ⟨fs, hr, hrun, hended, hW, hsame⟩ := X0.leave (v := some (.int (0 : Int32))) (fun h => by rw [Bd.returns] at h; cases h)
      refine ⟨_, _, q63 _ ?_, hrun, hended, _, _, rfl, ?_, ⟨_, rfl⟩, hW, hsame.mono (by decide) (by decide)⟩
      · show Steps p.tables e below (s₁.setTop (mkF m 94 #[.val (.ref a1), .val (.int (Int32.ofNat i)), .val (.ref a2), .val (.int (0 : Int32)), .val (.int (Int32.ofNat 3)), .val (.int (0 : Int32)), .unset, .unset] [(.int (0 : Int32))])) _
        exact retI X0 hx Bd.returns (hb hby d3_94) hr
      · show QN (own_mis f g i 3) h0 n0 _ s₁.heap _
        exact ⟨by rw [own_mis3, if_neg k41], N0, e0⟩
theorem ef_4 (m : MethodId) (x0 : Addr) (x1 : Int32) (x2 : Int32) (x3 : Addr) (x4 : Int32) (x5 : Int32) : entryFrame m #[(.ref x0), (.int x1), (.int x2), (.ref x3), (.int x4), (.int x5)] 8 = mkF m 0 #[.val (.ref x0), .val (.int x1), .val (.int x2), .val (.ref x3), .val (.int x4), .val (.int x5), .unset, .unset] [] := by first | (simp [entryFrame, mkF, argsToLocals, Value.category]; done) | rfl
theorem d4_0 : decode jdk_65_method_90_code 0 = .ok (.aload_n 0, 1) := by decide +kernel
theorem d4_1 : decode jdk_65_method_90_code 1 = .ok (.arraylength, 1) := by decide +kernel
theorem d4_2 : decode jdk_65_method_90_code 2 = .ok (.iload_n 1, 1) := by decide +kernel
theorem d4_3 : decode jdk_65_method_90_code 3 = .ok (.iload_n 2, 1) := by decide +kernel
theorem pd__III_V : parseMethodDescriptor "(III)V" = some ⟨[.int, .int, .int], none⟩ := by decide +kernel
theorem d4_4 : decode jdk_65_method_90_code 4 = .ok (.invokestatic 13, 3) := by decide +kernel
theorem d4_7 : decode jdk_65_method_90_code 7 = .ok (.aload_n 3, 1) := by decide +kernel
theorem d4_8 : decode jdk_65_method_90_code 8 = .ok (.arraylength, 1) := by decide +kernel
theorem d4_9 : decode jdk_65_method_90_code 9 = .ok (.iload 4, 2) := by decide +kernel
theorem d4_11 : decode jdk_65_method_90_code 11 = .ok (.iload 5, 2) := by decide +kernel
theorem d4_13 : decode jdk_65_method_90_code 13 = .ok (.invokestatic 13, 3) := by decide +kernel
theorem d4_16 : decode jdk_65_method_90_code 16 = .ok (.iload_n 2, 1) := by decide +kernel
theorem d4_17 : decode jdk_65_method_90_code 17 = .ok (.iload_n 1, 1) := by decide +kernel
theorem d4_18 : decode jdk_65_method_90_code 18 = .ok (.isub, 1) := by decide +kernel
theorem d4_19 : decode jdk_65_method_90_code 19 = .ok (.istore 6, 2) := by decide +kernel
theorem d4_21 : decode jdk_65_method_90_code 21 = .ok (.iload 5, 2) := by decide +kernel
theorem d4_23 : decode jdk_65_method_90_code 23 = .ok (.iload 4, 2) := by decide +kernel
theorem d4_25 : decode jdk_65_method_90_code 25 = .ok (.isub, 1) := by decide +kernel
theorem d4_26 : decode jdk_65_method_90_code 26 = .ok (.istore 7, 2) := by decide +kernel
theorem d4_28 : decode jdk_65_method_90_code 28 = .ok (.iload 6, 2) := by decide +kernel
theorem d4_30 : decode jdk_65_method_90_code 30 = .ok (.iload 7, 2) := by decide +kernel
theorem d4_32 : decode jdk_65_method_90_code 32 = .ok (.if_icmp .eq 5, 3) := by decide +kernel
theorem d4_37 : decode jdk_65_method_90_code 37 = .ok (.aload_n 0, 1) := by decide +kernel
theorem d4_38 : decode jdk_65_method_90_code 38 = .ok (.iload_n 1, 1) := by decide +kernel
theorem d4_39 : decode jdk_65_method_90_code 39 = .ok (.aload_n 3, 1) := by decide +kernel
theorem d4_40 : decode jdk_65_method_90_code 40 = .ok (.iload 4, 2) := by decide +kernel
theorem d4_42 : decode jdk_65_method_90_code 42 = .ok (.iload 6, 2) := by decide +kernel
theorem pd___BI_BII_I : parseMethodDescriptor "([BI[BII)I" = some ⟨[(.array .byte), .int, (.array .byte), .int, .int], some .int⟩ := by decide +kernel
theorem d4_44 : decode jdk_65_method_90_code 44 = .ok (.invokestatic 275, 3) := by decide +kernel
theorem d4_47 : decode jdk_65_method_90_code 47 = .ok (.ifCond .ge 7, 3) := by decide +kernel
theorem d4_50 : decode jdk_65_method_90_code 50 = .ok (.iconst 1, 1) := by decide +kernel
theorem d4_51 : decode jdk_65_method_90_code 51 = .ok (.goto 4, 3) := by decide +kernel
theorem d4_55 : decode jdk_65_method_90_code 55 = .ok (.ireturn, 1) := by decide +kernel
theorem d4_54 : decode jdk_65_method_90_code 54 = .ok (.iconst 0, 1) := by decide +kernel
set_option maxRecDepth 65536 in
set_option maxHeartbeats 40000000 in
theorem rm4 (l : Launch) (Z : State) (a0 : Array Value) (hw : ∀ d ∈ tables_1, d.before a0 Z = true) (ws : List Jvm.Cond) (a1 a2 : Addr) (n mm i : Nat) (hn : n ≤ 7) (hm : mm ≤ 3) (f g : Nat → Int32) (cl1 cl2 : Cell) (h0 : Heap) (n0 : Nat) (Z0 : n0 ≤ h0.size) (hi : i + mm ≤ n) (Ar1 : Arr Z h0 a1 cl1 .byte) (S1 : cl1.slots.size = n) (H1 : ∀ i, i < cl1.slots.size → cl1.slots[i]? = some (.int (f i))) (Ar2 : Arr Z h0 a2 cl2 .byte) (S2 : cl2.slots.size = mm) (H2 : ∀ i, i < cl2.slots.size → cl2.slots[i]? = some (.int (g i))) :
    MetFree l (⟨"java/util/Arrays", "equals", "([BII[BII)Z"⟩ : MethodName) (head1 (Jvm.Cond.code (⟨"java/util/Arrays", "equals", "([BII[BII)Z"⟩ : MethodName) jdk_65_method_90_code 8 (some .boolean) :: ws) ({ frames := 1, cells := 0, slots := 0, locals := 19 } : Room)) (fun a U => a = #[(.ref a1), (.int (Int32.ofNat i)), (.int (Int32.ofNat (i + mm))), (.ref a2), (.int (0 : Int32)), (.int (Int32.ofNat mm))] ∧ Z.Warmed39 U.vm ∧ U.heap = h0) (fun _ _ _ _ _ => True) (fun _ U o U' => ∃ v L, o = .returned v ∧ QN (own_eqv f g i mm) h0 n0 v U'.heap L ∧ FrameEnd U o U' L ({ frames := 1, cells := 0, slots := 0, locals := 19 } : Room).cells ({ frames := 1, cells := 0, slots := 0, locals := 19 } : Room).slots) := by
  refine MetFree.of_bodySF (plainFor_of_name pn_java_util_Arrays) hisR ?_
  intro p e s m args below meth c s₁ Bd hml0 hP hK
  obtain ⟨rfl, hZ, hh⟩ := hP
  have hx := Bd.exec
  have hby := Bd.bytes
  have hml : c.maxLocals = 8 := hml0
  have hown : s.vm.findClass "java/util/Arrays" = some m.cls := findClass_of_methodNamed Bd.named
  have hnm := (name_of_methodNamed Bd.named Bd.method).1
  have X0 : Stand p l e ({ frames := 1, cells := 0, slots := 0, locals := 19 } : Room) s m #[(.ref a1), (.int (Int32.ofNat i)), (.int (Int32.ofNat (i + mm))), (.ref a2), (.int (0 : Int32)), (.int (Int32.ofNat mm))] below meth c s₁ [] 0 0 := Stand.of_body Bd
  have e0 : s₁.heap = h0 := by rw [← hh, Bd.state]; rfl
  have N0 := Fr.nil n0
  have pre0 : ∀ t, Steps p.tables e below (s₁.setTop (mkF m 0 #[.val (.ref a1), .val (.int (Int32.ofNat i)), .val (.int (Int32.ofNat (i + mm))), .val (.ref a2), .val (.int (0 : Int32)), .val (.int (Int32.ofNat mm)), .unset, .unset] [])) t → Steps p.tables e below (s₁.setTop (entryFrame m #[(.ref a1), (.int (Int32.ofNat i)), (.int (Int32.ofNat (i + mm))), (.ref a2), (.int (0 : Int32)), (.int (Int32.ofNat mm))] 8)) t := fun t k => castTop (ef_4 m a1 (Int32.ofNat i) (Int32.ofNat (i + mm)) a2 (0 : Int32) (Int32.ofNat mm)) k
  have S1' : cl1.slots.size = (Int32.ofNat n).toNatClampNeg := by rw [own_n32 (by omega)]; exact S1
  have M1' : ¬ Int32.ofNat n < 0 := own_neg (by omega)
  have S2' : cl2.slots.size = (Int32.ofNat mm).toNatClampNeg := by rw [own_n32 (by omega)]; exact S2
  have M2' : ¬ Int32.ofNat mm < 0 := own_neg (by omega)
  have q64 : ∀ t, Steps p.tables e below (s₁.setTop (mkF m 4 #[.val (.ref a1), .val (.int (Int32.ofNat i)), .val (.int (Int32.ofNat (i + mm))), .val (.ref a2), .val (.int (0 : Int32)), .val (.int (Int32.ofNat mm)), .unset, .unset] [(.int (Int32.ofNat (i + mm))), (.int (Int32.ofNat i)), (.int (Int32.ofNat n))])) t → Steps p.tables e below (s₁.setTop (entryFrame m #[(.ref a1), (.int (Int32.ofNat i)), (.int (Int32.ofNat (i + mm))), (.ref a2), (.int (0 : Int32)), (.int (Int32.ofNat mm))] 8)) t := fun t k => pre0 t (by
      show Steps p.tables e below (s₁.setTop (mkF m 0 #[.val (.ref a1), .val (.int (Int32.ofNat i)), .val (.int (Int32.ofNat (i + mm))), .val (.ref a2), .val (.int (0 : Int32)), .val (.int (Int32.ofNat mm)), .unset, .unset] [])) _
      refine XS.aloadN X0.here hx rfl (hb hby d4_0) rfl rfl ?_
      show Steps p.tables e below (s₁.setTop (mkF m 1 #[.val (.ref a1), .val (.int (Int32.ofNat i)), .val (.int (Int32.ofNat (i + mm))), .val (.ref a2), .val (.int (0 : Int32)), .val (.int (Int32.ofNat mm)), .unset, .unset] [(.ref a1)])) _
      refine X0.arraylength hx (cell := cl1) (by rw [e0]; exact Ar1.1) (State.isArrayOf_alike hZ.alike Ar1.2.1) (g := (mkF m 1 #[.val (.ref a1), .val (.int (Int32.ofNat i)), .val (.int (Int32.ofNat (i + mm))), .val (.ref a2), .val (.int (0 : Int32)), .val (.int (Int32.ofNat mm)), .unset, .unset] [(.ref a1)])) rfl (rest := []) rfl (hb hby d4_1) _ ?_
      rw [len_of S1' M1']
      show Steps p.tables e below (s₁.setTop (mkF m 2 #[.val (.ref a1), .val (.int (Int32.ofNat i)), .val (.int (Int32.ofNat (i + mm))), .val (.ref a2), .val (.int (0 : Int32)), .val (.int (Int32.ofNat mm)), .unset, .unset] [(.int (Int32.ofNat n))])) _
      refine XS.iloadN X0.here hx rfl (hb hby d4_2) rfl ?_
      show Steps p.tables e below (s₁.setTop (mkF m 3 #[.val (.ref a1), .val (.int (Int32.ofNat i)), .val (.int (Int32.ofNat (i + mm))), .val (.ref a2), .val (.int (0 : Int32)), .val (.int (Int32.ofNat mm)), .unset, .unset] [(.int (Int32.ofNat i)), (.int (Int32.ofNat n))])) _
      refine XS.iloadN X0.here hx rfl (hb hby d4_3) rfl ?_
      show Steps p.tables e below (s₁.setTop (mkF m 4 #[.val (.ref a1), .val (.int (Int32.ofNat i)), .val (.int (Int32.ofNat (i + mm))), .val (.ref a2), .val (.int (0 : Int32)), .val (.int (Int32.ofNat mm)), .unset, .unset] [(.int (Int32.ofNat (i + mm))), (.int (Int32.ofNat i)), (.int (Int32.ofNat n))])) _
      exact k)
  obtain ⟨_, _, ⟨T65, L65, kk65, nn65⟩, -, X65, ⟨Lc65, hQ65, l65, y65, z65⟩, st65⟩ := Jvm.LawKit.callS X0 hx (y := (⟨"java/util/Arrays", "rangeCheck", "(III)V"⟩ : MethodName)) hown (mvT hZ (hw _ (List.mem_of_getElem? (i := 17) rfl))) (mvT hZ (hw _ (List.mem_of_getElem? (i := 18) rfl))) (mvT hZ (hw _ (List.mem_of_getElem? (i := 15) rfl))) (mvT hZ (hw _ (List.mem_of_getElem? (i := 19) rfl))) (by decide) (backOf (W := 0) (rm2 l Z a0 hw [] (Int32.ofNat n) (Int32.ofNat i) (Int32.ofNat (i + mm)) h0 n0 Z0 (own_nlt (by rw [own_ti (by omega), own_ti (by omega)]; omega)) (own_neg (by omega)) (own_nlt (by rw [own_ti (by omega), own_ti (by omega)]; omega))) hZ (hw _ (List.mem_of_getElem? (i := 19) rfl)) (hw _ (List.mem_of_getElem? (i := 15) rfl)) (by decide) (by decide)) (g := (mkF m 4 #[.val (.ref a1), .val (.int (Int32.ofNat i)), .val (.int (Int32.ofNat (i + mm))), .val (.ref a2), .val (.int (0 : Int32)), .val (.int (Int32.ofNat mm)), .unset, .unset] [(.int (Int32.ofNat (i + mm))), (.int (Int32.ofNat i)), (.int (Int32.ofNat n))])) rfl (by rw [hml]; rfl) (argsL := [(.int (Int32.ofNat n)), (.int (Int32.ofNat i)), (.int (Int32.ofNat (i + mm)))]) (rest := []) (lenOf pd__III_V rfl) rfl (by show 2 * 0 + _ ≤ _; exact Nat.le_of_eq rfl) (hb hby d4_4) (fun _ _ => ⟨rfl, e0, (by decide : 0 + 0 ≤ _), (by decide : 0 + 0 ≤ _)⟩)
  dsimp only [Pt.U, Pt.locs, Pt.cells, Pt.slots] at X65 l65 y65 z65 st65 hQ65
  subst l65 y65 z65
  obtain ⟨rfl, Nq65, e65⟩ := hQ65
  have N65 := Fr.app N0 Nq65
  have q66 : ∀ t, Steps p.tables e below (T65.setTop (mkF m 7 #[.val (.ref a1), .val (.int (Int32.ofNat i)), .val (.int (Int32.ofNat (i + mm))), .val (.ref a2), .val (.int (0 : Int32)), .val (.int (Int32.ofNat mm)), .unset, .unset] [])) t → Steps p.tables e below (s₁.setTop (entryFrame m #[(.ref a1), (.int (Int32.ofNat i)), (.int (Int32.ofNat (i + mm))), (.ref a2), (.int (0 : Int32)), (.int (Int32.ofNat mm))] 8)) t := fun t k => q64 t (st65 t k)
  have q67 : ∀ t, Steps p.tables e below (T65.setTop (mkF m 13 #[.val (.ref a1), .val (.int (Int32.ofNat i)), .val (.int (Int32.ofNat (i + mm))), .val (.ref a2), .val (.int (0 : Int32)), .val (.int (Int32.ofNat mm)), .unset, .unset] [(.int (Int32.ofNat mm)), (.int (0 : Int32)), (.int (Int32.ofNat mm))])) t → Steps p.tables e below (s₁.setTop (entryFrame m #[(.ref a1), (.int (Int32.ofNat i)), (.int (Int32.ofNat (i + mm))), (.ref a2), (.int (0 : Int32)), (.int (Int32.ofNat mm))] 8)) t := fun t k => q66 t (by
      show Steps p.tables e below (T65.setTop (mkF m 7 #[.val (.ref a1), .val (.int (Int32.ofNat i)), .val (.int (Int32.ofNat (i + mm))), .val (.ref a2), .val (.int (0 : Int32)), .val (.int (Int32.ofNat mm)), .unset, .unset] [])) _
      refine XS.aloadN X65.here hx rfl (hb hby d4_7) rfl rfl ?_
      show Steps p.tables e below (T65.setTop (mkF m 8 #[.val (.ref a1), .val (.int (Int32.ofNat i)), .val (.int (Int32.ofNat (i + mm))), .val (.ref a2), .val (.int (0 : Int32)), .val (.int (Int32.ofNat mm)), .unset, .unset] [(.ref a2)])) _
      refine X65.arraylength hx (cell := cl2) (by rw [e65]; exact Ar2.1) (State.isArrayOf_alike hZ.alike Ar2.2.1) (g := (mkF m 8 #[.val (.ref a1), .val (.int (Int32.ofNat i)), .val (.int (Int32.ofNat (i + mm))), .val (.ref a2), .val (.int (0 : Int32)), .val (.int (Int32.ofNat mm)), .unset, .unset] [(.ref a2)])) rfl (rest := []) rfl (hb hby d4_8) _ ?_
      rw [len_of S2' M2']
      show Steps p.tables e below (T65.setTop (mkF m 9 #[.val (.ref a1), .val (.int (Int32.ofNat i)), .val (.int (Int32.ofNat (i + mm))), .val (.ref a2), .val (.int (0 : Int32)), .val (.int (Int32.ofNat mm)), .unset, .unset] [(.int (Int32.ofNat mm))])) _
      refine XS.iload X65.here hx rfl (hb hby d4_9) rfl ?_
      show Steps p.tables e below (T65.setTop (mkF m 11 #[.val (.ref a1), .val (.int (Int32.ofNat i)), .val (.int (Int32.ofNat (i + mm))), .val (.ref a2), .val (.int (0 : Int32)), .val (.int (Int32.ofNat mm)), .unset, .unset] [(.int (0 : Int32)), (.int (Int32.ofNat mm))])) _
      refine XS.iload X65.here hx rfl (hb hby d4_11) rfl ?_
      show Steps p.tables e below (T65.setTop (mkF m 13 #[.val (.ref a1), .val (.int (Int32.ofNat i)), .val (.int (Int32.ofNat (i + mm))), .val (.ref a2), .val (.int (0 : Int32)), .val (.int (Int32.ofNat mm)), .unset, .unset] [(.int (Int32.ofNat mm)), (.int (0 : Int32)), (.int (Int32.ofNat mm))])) _
      exact k)
  obtain ⟨_, _, ⟨T68, L68, kk68, nn68⟩, -, X68, ⟨Lc68, hQ68, l68, y68, z68⟩, st68⟩ := Jvm.LawKit.callS X65 hx (y := (⟨"java/util/Arrays", "rangeCheck", "(III)V"⟩ : MethodName)) hown (mvT hZ (hw _ (List.mem_of_getElem? (i := 17) rfl))) (mvT hZ (hw _ (List.mem_of_getElem? (i := 18) rfl))) (mvT hZ (hw _ (List.mem_of_getElem? (i := 15) rfl))) (mvT hZ (hw _ (List.mem_of_getElem? (i := 19) rfl))) (by decide) (backOf (W := 0) (rm2 l Z a0 hw [] (Int32.ofNat mm) (0 : Int32) (Int32.ofNat mm) h0 n0 Z0 (own_neg (by omega)) (by decide) Int32.lt_irrefl) hZ (hw _ (List.mem_of_getElem? (i := 19) rfl)) (hw _ (List.mem_of_getElem? (i := 15) rfl)) (by decide) (by decide)) (g := (mkF m 13 #[.val (.ref a1), .val (.int (Int32.ofNat i)), .val (.int (Int32.ofNat (i + mm))), .val (.ref a2), .val (.int (0 : Int32)), .val (.int (Int32.ofNat mm)), .unset, .unset] [(.int (Int32.ofNat mm)), (.int (0 : Int32)), (.int (Int32.ofNat mm))])) rfl (by rw [hml]; rfl) (argsL := [(.int (Int32.ofNat mm)), (.int (0 : Int32)), (.int (Int32.ofNat mm))]) (rest := []) (lenOf pd__III_V rfl) rfl (by show 2 * 0 + _ ≤ _; exact Nat.le_of_eq rfl) (hb hby d4_13) (fun _ _ => ⟨rfl, e65, (by decide : 0 + 0 ≤ _), (by decide : 0 + 0 ≤ _)⟩)
  dsimp only [Pt.U, Pt.locs, Pt.cells, Pt.slots] at X68 l68 y68 z68 st68 hQ68
  subst l68 y68 z68
  obtain ⟨rfl, Nq68, e68⟩ := hQ68
  have N68 := Fr.app N65 Nq68
  have q69 : ∀ t, Steps p.tables e below (T68.setTop (mkF m 16 #[.val (.ref a1), .val (.int (Int32.ofNat i)), .val (.int (Int32.ofNat (i + mm))), .val (.ref a2), .val (.int (0 : Int32)), .val (.int (Int32.ofNat mm)), .unset, .unset] [])) t → Steps p.tables e below (s₁.setTop (entryFrame m #[(.ref a1), (.int (Int32.ofNat i)), (.int (Int32.ofNat (i + mm))), (.ref a2), (.int (0 : Int32)), (.int (Int32.ofNat mm))] 8)) t := fun t k => q67 t (st68 t k)
  have q70 : ∀ t, Steps p.tables e below (T68.setTop (mkF m 21 #[.val (.ref a1), .val (.int (Int32.ofNat i)), .val (.int (Int32.ofNat (i + mm))), .val (.ref a2), .val (.int (0 : Int32)), .val (.int (Int32.ofNat mm)), .val (.int ((Int32.ofNat (i + mm)) - (Int32.ofNat i))), .unset] [])) t → Steps p.tables e below (s₁.setTop (entryFrame m #[(.ref a1), (.int (Int32.ofNat i)), (.int (Int32.ofNat (i + mm))), (.ref a2), (.int (0 : Int32)), (.int (Int32.ofNat mm))] 8)) t := fun t k => q69 t (by
      show Steps p.tables e below (T68.setTop (mkF m 16 #[.val (.ref a1), .val (.int (Int32.ofNat i)), .val (.int (Int32.ofNat (i + mm))), .val (.ref a2), .val (.int (0 : Int32)), .val (.int (Int32.ofNat mm)), .unset, .unset] [])) _
      refine XS.iloadN X68.here hx rfl (hb hby d4_16) rfl ?_
      show Steps p.tables e below (T68.setTop (mkF m 17 #[.val (.ref a1), .val (.int (Int32.ofNat i)), .val (.int (Int32.ofNat (i + mm))), .val (.ref a2), .val (.int (0 : Int32)), .val (.int (Int32.ofNat mm)), .unset, .unset] [(.int (Int32.ofNat (i + mm)))])) _
      refine XS.iloadN X68.here hx rfl (hb hby d4_17) rfl ?_
      show Steps p.tables e below (T68.setTop (mkF m 18 #[.val (.ref a1), .val (.int (Int32.ofNat i)), .val (.int (Int32.ofNat (i + mm))), .val (.ref a2), .val (.int (0 : Int32)), .val (.int (Int32.ofNat mm)), .unset, .unset] [(.int (Int32.ofNat i)), (.int (Int32.ofNat (i + mm)))])) _
      refine XS.isub X68.here hx rfl (hb hby d4_18) rfl ?_
      show Steps p.tables e below (T68.setTop (mkF m 19 #[.val (.ref a1), .val (.int (Int32.ofNat i)), .val (.int (Int32.ofNat (i + mm))), .val (.ref a2), .val (.int (0 : Int32)), .val (.int (Int32.ofNat mm)), .unset, .unset] [(.int ((Int32.ofNat (i + mm)) - (Int32.ofNat i)))])) _
      refine XS.istore X68.here hx rfl (hb hby d4_19) rfl (l' := #[.val (.ref a1), .val (.int (Int32.ofNat i)), .val (.int (Int32.ofNat (i + mm))), .val (.ref a2), .val (.int (0 : Int32)), .val (.int (Int32.ofNat mm)), .val (.int ((Int32.ofNat (i + mm)) - (Int32.ofNat i))), .unset]) rfl ?_
      show Steps p.tables e below (T68.setTop (mkF m 21 #[.val (.ref a1), .val (.int (Int32.ofNat i)), .val (.int (Int32.ofNat (i + mm))), .val (.ref a2), .val (.int (0 : Int32)), .val (.int (Int32.ofNat mm)), .val (.int ((Int32.ofNat (i + mm)) - (Int32.ofNat i))), .unset] [])) _
      exact k)
  have q71 : ∀ t, Steps p.tables e below (T68.setTop (mkF m 21 #[.val (.ref a1), .val (.int (Int32.ofNat i)), .val (.int (Int32.ofNat (i + mm))), .val (.ref a2), .val (.int (0 : Int32)), .val (.int (Int32.ofNat mm)), .val (.int (Int32.ofNat mm)), .unset] [])) t → Steps p.tables e below (s₁.setTop (entryFrame m #[(.ref a1), (.int (Int32.ofNat i)), (.int (Int32.ofNat (i + mm))), (.ref a2), (.int (0 : Int32)), (.int (Int32.ofNat mm))] 8)) t := fun t k => q70 t (by rw [show ((Int32.ofNat (i + mm)) - (Int32.ofNat i)) = (Int32.ofNat mm) from (own_sub i mm).symm]; exact k)
  have q72 : ∀ t, Steps p.tables e below (T68.setTop (mkF m 28 #[.val (.ref a1), .val (.int (Int32.ofNat i)), .val (.int (Int32.ofNat (i + mm))), .val (.ref a2), .val (.int (0 : Int32)), .val (.int (Int32.ofNat mm)), .val (.int (Int32.ofNat mm)), .val (.int ((Int32.ofNat mm) - (0 : Int32)))] [])) t → Steps p.tables e below (s₁.setTop (entryFrame m #[(.ref a1), (.int (Int32.ofNat i)), (.int (Int32.ofNat (i + mm))), (.ref a2), (.int (0 : Int32)), (.int (Int32.ofNat mm))] 8)) t := fun t k => q71 t (by
      show Steps p.tables e below (T68.setTop (mkF m 21 #[.val (.ref a1), .val (.int (Int32.ofNat i)), .val (.int (Int32.ofNat (i + mm))), .val (.ref a2), .val (.int (0 : Int32)), .val (.int (Int32.ofNat mm)), .val (.int (Int32.ofNat mm)), .unset] [])) _
      refine XS.iload X68.here hx rfl (hb hby d4_21) rfl ?_
      show Steps p.tables e below (T68.setTop (mkF m 23 #[.val (.ref a1), .val (.int (Int32.ofNat i)), .val (.int (Int32.ofNat (i + mm))), .val (.ref a2), .val (.int (0 : Int32)), .val (.int (Int32.ofNat mm)), .val (.int (Int32.ofNat mm)), .unset] [(.int (Int32.ofNat mm))])) _
      refine XS.iload X68.here hx rfl (hb hby d4_23) rfl ?_
      show Steps p.tables e below (T68.setTop (mkF m 25 #[.val (.ref a1), .val (.int (Int32.ofNat i)), .val (.int (Int32.ofNat (i + mm))), .val (.ref a2), .val (.int (0 : Int32)), .val (.int (Int32.ofNat mm)), .val (.int (Int32.ofNat mm)), .unset] [(.int (0 : Int32)), (.int (Int32.ofNat mm))])) _
      refine XS.isub X68.here hx rfl (hb hby d4_25) rfl ?_
      show Steps p.tables e below (T68.setTop (mkF m 26 #[.val (.ref a1), .val (.int (Int32.ofNat i)), .val (.int (Int32.ofNat (i + mm))), .val (.ref a2), .val (.int (0 : Int32)), .val (.int (Int32.ofNat mm)), .val (.int (Int32.ofNat mm)), .unset] [(.int ((Int32.ofNat mm) - (0 : Int32)))])) _
      refine XS.istore X68.here hx rfl (hb hby d4_26) rfl (l' := #[.val (.ref a1), .val (.int (Int32.ofNat i)), .val (.int (Int32.ofNat (i + mm))), .val (.ref a2), .val (.int (0 : Int32)), .val (.int (Int32.ofNat mm)), .val (.int (Int32.ofNat mm)), .val (.int ((Int32.ofNat mm) - (0 : Int32)))]) rfl ?_
      show Steps p.tables e below (T68.setTop (mkF m 28 #[.val (.ref a1), .val (.int (Int32.ofNat i)), .val (.int (Int32.ofNat (i + mm))), .val (.ref a2), .val (.int (0 : Int32)), .val (.int (Int32.ofNat mm)), .val (.int (Int32.ofNat mm)), .val (.int ((Int32.ofNat mm) - (0 : Int32)))] [])) _
      exact k)
  have q73 : ∀ t, Steps p.tables e below (T68.setTop (mkF m 28 #[.val (.ref a1), .val (.int (Int32.ofNat i)), .val (.int (Int32.ofNat (i + mm))), .val (.ref a2), .val (.int (0 : Int32)), .val (.int (Int32.ofNat mm)), .val (.int (Int32.ofNat mm)), .val (.int (Int32.ofNat mm))] [])) t → Steps p.tables e below (s₁.setTop (entryFrame m #[(.ref a1), (.int (Int32.ofNat i)), (.int (Int32.ofNat (i + mm))), (.ref a2), (.int (0 : Int32)), (.int (Int32.ofNat mm))] 8)) t := fun t k => q72 t (by rw [show ((Int32.ofNat mm) - (0 : Int32)) = (Int32.ofNat mm) from (own_sub0 mm).symm]; exact k)
  have q74 : ∀ t, Steps p.tables e below (T68.setTop (mkF m 44 #[.val (.ref a1), .val (.int (Int32.ofNat i)), .val (.int (Int32.ofNat (i + mm))), .val (.ref a2), .val (.int (0 : Int32)), .val (.int (Int32.ofNat mm)), .val (.int (Int32.ofNat mm)), .val (.int (Int32.ofNat mm))] [(.int (Int32.ofNat mm)), (.int (0 : Int32)), (.ref a2), (.int (Int32.ofNat i)), (.ref a1)])) t → Steps p.tables e below (s₁.setTop (entryFrame m #[(.ref a1), (.int (Int32.ofNat i)), (.int (Int32.ofNat (i + mm))), (.ref a2), (.int (0 : Int32)), (.int (Int32.ofNat mm))] 8)) t := fun t k => q73 t (by
      show Steps p.tables e below (T68.setTop (mkF m 28 #[.val (.ref a1), .val (.int (Int32.ofNat i)), .val (.int (Int32.ofNat (i + mm))), .val (.ref a2), .val (.int (0 : Int32)), .val (.int (Int32.ofNat mm)), .val (.int (Int32.ofNat mm)), .val (.int (Int32.ofNat mm))] [])) _
      refine XS.iload X68.here hx rfl (hb hby d4_28) rfl ?_
      show Steps p.tables e below (T68.setTop (mkF m 30 #[.val (.ref a1), .val (.int (Int32.ofNat i)), .val (.int (Int32.ofNat (i + mm))), .val (.ref a2), .val (.int (0 : Int32)), .val (.int (Int32.ofNat mm)), .val (.int (Int32.ofNat mm)), .val (.int (Int32.ofNat mm))] [(.int (Int32.ofNat mm))])) _
      refine XS.iload X68.here hx rfl (hb hby d4_30) rfl ?_
      show Steps p.tables e below (T68.setTop (mkF m 32 #[.val (.ref a1), .val (.int (Int32.ofNat i)), .val (.int (Int32.ofNat (i + mm))), .val (.ref a2), .val (.int (0 : Int32)), .val (.int (Int32.ofNat mm)), .val (.int (Int32.ofNat mm)), .val (.int (Int32.ofNat mm))] [(.int (Int32.ofNat mm)), (.int (Int32.ofNat mm))])) _
      refine XS.icmpYes X68.here hx rfl (pc0 := 32) (pc' := 37) rfl (hb hby d4_32) rfl (XT.ii_eq_t (rfl : (Int32.ofNat mm) = (Int32.ofNat mm))) (by decide) (by decide) ?_
      show Steps p.tables e below (T68.setTop (mkF m 37 #[.val (.ref a1), .val (.int (Int32.ofNat i)), .val (.int (Int32.ofNat (i + mm))), .val (.ref a2), .val (.int (0 : Int32)), .val (.int (Int32.ofNat mm)), .val (.int (Int32.ofNat mm)), .val (.int (Int32.ofNat mm))] [])) _
      refine XS.aloadN X68.here hx rfl (hb hby d4_37) rfl rfl ?_
      show Steps p.tables e below (T68.setTop (mkF m 38 #[.val (.ref a1), .val (.int (Int32.ofNat i)), .val (.int (Int32.ofNat (i + mm))), .val (.ref a2), .val (.int (0 : Int32)), .val (.int (Int32.ofNat mm)), .val (.int (Int32.ofNat mm)), .val (.int (Int32.ofNat mm))] [(.ref a1)])) _
      refine XS.iloadN X68.here hx rfl (hb hby d4_38) rfl ?_
      show Steps p.tables e below (T68.setTop (mkF m 39 #[.val (.ref a1), .val (.int (Int32.ofNat i)), .val (.int (Int32.ofNat (i + mm))), .val (.ref a2), .val (.int (0 : Int32)), .val (.int (Int32.ofNat mm)), .val (.int (Int32.ofNat mm)), .val (.int (Int32.ofNat mm))] [(.int (Int32.ofNat i)), (.ref a1)])) _
      refine XS.aloadN X68.here hx rfl (hb hby d4_39) rfl rfl ?_
      show Steps p.tables e below (T68.setTop (mkF m 40 #[.val (.ref a1), .val (.int (Int32.ofNat i)), .val (.int (Int32.ofNat (i + mm))), .val (.ref a2), .val (.int (0 : Int32)), .val (.int (Int32.ofNat mm)), .val (.int (Int32.ofNat mm)), .val (.int (Int32.ofNat mm))] [(.ref a2), (.int (Int32.ofNat i)), (.ref a1)])) _
      refine XS.iload X68.here hx rfl (hb hby d4_40) rfl ?_
      show Steps p.tables e below (T68.setTop (mkF m 42 #[.val (.ref a1), .val (.int (Int32.ofNat i)), .val (.int (Int32.ofNat (i + mm))), .val (.ref a2), .val (.int (0 : Int32)), .val (.int (Int32.ofNat mm)), .val (.int (Int32.ofNat mm)), .val (.int (Int32.ofNat mm))] [(.int (0 : Int32)), (.ref a2), (.int (Int32.ofNat i)), (.ref a1)])) _
      refine XS.iload X68.here hx rfl (hb hby d4_42) rfl ?_
      show Steps p.tables e below (T68.setTop (mkF m 44 #[.val (.ref a1), .val (.int (Int32.ofNat i)), .val (.int (Int32.ofNat (i + mm))), .val (.ref a2), .val (.int (0 : Int32)), .val (.int (Int32.ofNat mm)), .val (.int (Int32.ofNat mm)), .val (.int (Int32.ofNat mm))] [(.int (Int32.ofNat mm)), (.int (0 : Int32)), (.ref a2), (.int (Int32.ofNat i)), (.ref a1)])) _
      exact k)
  obtain ⟨_, _, ⟨T75, L75, kk75, nn75⟩, -, X75, ⟨Lc75, hQ75, l75, y75, z75⟩, st75⟩ := Jvm.LawKit.callS X68 hx (y := (⟨"jdk/internal/util/ArraysSupport", "mismatch", "([BI[BII)I"⟩ : MethodName)) hown (mvT hZ (hw _ (List.mem_of_getElem? (i := 20) rfl))) (mvT hZ (hw _ (List.mem_of_getElem? (i := 21) rfl))) (mvT hZ (hw _ (List.mem_of_getElem? (i := 22) rfl))) (mvT hZ (hw _ (List.mem_of_getElem? (i := 23) rfl))) (by decide) (backOf (W := 0) (rm3 l Z a0 hw [] a1 a2 n mm i hn hm f g cl1 cl2 h0 n0 Z0 hi Ar1 S1 H1 Ar2 S2 H2) hZ (hw _ (List.mem_of_getElem? (i := 23) rfl)) (hw _ (List.mem_of_getElem? (i := 22) rfl)) (by decide) (by decide)) (g := (mkF m 44 #[.val (.ref a1), .val (.int (Int32.ofNat i)), .val (.int (Int32.ofNat (i + mm))), .val (.ref a2), .val (.int (0 : Int32)), .val (.int (Int32.ofNat mm)), .val (.int (Int32.ofNat mm)), .val (.int (Int32.ofNat mm))] [(.int (Int32.ofNat mm)), (.int (0 : Int32)), (.ref a2), (.int (Int32.ofNat i)), (.ref a1)])) rfl (by rw [hml]; rfl) (argsL := [(.ref a1), (.int (Int32.ofNat i)), (.ref a2), (.int (0 : Int32)), (.int (Int32.ofNat mm))]) (rest := []) (lenOf pd___BI_BII_I rfl) rfl (by show 2 * 0 + _ ≤ _; exact Nat.le_of_eq rfl) (hb hby d4_44) (fun _ _ => ⟨rfl, e68, (by decide : 0 + 0 ≤ _), (by decide : 0 + 0 ≤ _)⟩)
  dsimp only [Pt.U, Pt.locs, Pt.cells, Pt.slots] at X75 l75 y75 z75 st75 hQ75
  subst l75 y75 z75
  obtain ⟨rfl, Nq75, e75⟩ := hQ75
  have N75 := Fr.app N68 Nq75
  have q76 : ∀ t, Steps p.tables e below (T75.setTop (mkF m 47 #[.val (.ref a1), .val (.int (Int32.ofNat i)), .val (.int (Int32.ofNat (i + mm))), .val (.ref a2), .val (.int (0 : Int32)), .val (.int (Int32.ofNat mm)), .val (.int (Int32.ofNat mm)), .val (.int (Int32.ofNat mm))] [(.int (own_mis f g i mm))])) t → Steps p.tables e below (s₁.setTop (entryFrame m #[(.ref a1), (.int (Int32.ofNat i)), (.int (Int32.ofNat (i + mm))), (.ref a2), (.int (0 : Int32)), (.int (Int32.ofNat mm))] 8)) t := fun t k => q74 t (st75 t k)
  by_cases k77 : (own_mis f g i mm) < (0 : Int32)
  · skip
    have q78 : ∀ t, Steps p.tables e below (T75.setTop (mkF m 55 #[.val (.ref a1), .val (.int (Int32.ofNat i)), .val (.int (Int32.ofNat (i + mm))), .val (.ref a2), .val (.int (0 : Int32)), .val (.int (Int32.ofNat mm)), .val (.int (Int32.ofNat mm)), .val (.int (Int32.ofNat mm))] [(.int (1 : Int32))])) t → Steps p.tables e below (s₁.setTop (entryFrame m #[(.ref a1), (.int (Int32.ofNat i)), (.int (Int32.ofNat (i + mm))), (.ref a2), (.int (0 : Int32)), (.int (Int32.ofNat mm))] 8)) t := fun t k => q76 t (by
        show Steps p.tables e below (T75.setTop (mkF m 47 #[.val (.ref a1), .val (.int (Int32.ofNat i)), .val (.int (Int32.ofNat (i + mm))), .val (.ref a2), .val (.int (0 : Int32)), .val (.int (Int32.ofNat mm)), .val (.int (Int32.ofNat mm)), .val (.int (Int32.ofNat mm))] [(.int (own_mis f g i mm))])) _
        refine XS.ifNo X75.here hx rfl (hb hby d4_47) rfl (XT.i0_ge_f (k77 : (own_mis f g i mm) < (0 : Int32))) ?_
        show Steps p.tables e below (T75.setTop (mkF m 50 #[.val (.ref a1), .val (.int (Int32.ofNat i)), .val (.int (Int32.ofNat (i + mm))), .val (.ref a2), .val (.int (0 : Int32)), .val (.int (Int32.ofNat mm)), .val (.int (Int32.ofNat mm)), .val (.int (Int32.ofNat mm))] [])) _
        refine XS.iconst X75.here hx rfl (hb hby d4_50) ?_
        show Steps p.tables e below (T75.setTop (mkF m 51 #[.val (.ref a1), .val (.int (Int32.ofNat i)), .val (.int (Int32.ofNat (i + mm))), .val (.ref a2), .val (.int (0 : Int32)), .val (.int (Int32.ofNat mm)), .val (.int (Int32.ofNat mm)), .val (.int (Int32.ofNat mm))] [(.int (1 : Int32))])) _
        refine XS.goto X75.here hx rfl (pc0 := 51) (pc' := 55) rfl (hb hby d4_51) (by decide) (by decide) ?_
        show Steps p.tables e below (T75.setTop (mkF m 55 #[.val (.ref a1), .val (.int (Int32.ofNat i)), .val (.int (Int32.ofNat (i + mm))), .val (.ref a2), .val (.int (0 : Int32)), .val (.int (Int32.ofNat mm)), .val (.int (Int32.ofNat mm)), .val (.int (Int32.ofNat mm))] [(.int (1 : Int32))])) _
        exact k)
    obtain ⟨fs, hr, hrun, hended, hW, hsame⟩ := X75.leave (v := some (.int (1 : Int32))) (fun h => by rw [Bd.returns] at h; cases h)
    refine ⟨_, _, q78 _ ?_, hrun, hended, _, _, rfl, ?_, ⟨_, rfl⟩, hW, hsame.mono (by decide) (by decide)⟩
    · show Steps p.tables e below (T75.setTop (mkF m 55 #[.val (.ref a1), .val (.int (Int32.ofNat i)), .val (.int (Int32.ofNat (i + mm))), .val (.ref a2), .val (.int (0 : Int32)), .val (.int (Int32.ofNat mm)), .val (.int (Int32.ofNat mm)), .val (.int (Int32.ofNat mm))] [(.int (1 : Int32))])) _
      exact retN X75 hx (t := .boolean) Bd.returns (by simp) (hb hby d4_55) hr
    · show QN (own_eqv f g i mm) h0 n0 _ T75.heap _
      exact ⟨by unfold own_eqv; rw [if_pos k77], N75, e75⟩
  · skip
    have q79 : ∀ t, Steps p.tables e below (T75.setTop (mkF m 55 #[.val (.ref a1), .val (.int (Int32.ofNat i)), .val (.int (Int32.ofNat (i + mm))), .val (.ref a2), .val (.int (0 : Int32)), .val (.int (Int32.ofNat mm)), .val (.int (Int32.ofNat mm)), .val (.int (Int32.ofNat mm))] [(.int (0 : Int32))])) t → Steps p.tables e below (s₁.setTop (entryFrame m #[(.ref a1), (.int (Int32.ofNat i)), (.int (Int32.ofNat (i + mm))), (.ref a2), (.int (0 : Int32)), (.int (Int32.ofNat mm))] 8)) t := fun t k => q76 t (by
        show Steps p.tables e below (T75.setTop (mkF m 47 #[.val (.ref a1), .val (.int (Int32.ofNat i)), .val (.int (Int32.ofNat (i + mm))), .val (.ref a2), .val (.int (0 : Int32)), .val (.int (Int32.ofNat mm)), .val (.int (Int32.ofNat mm)), .val (.int (Int32.ofNat mm))] [(.int (own_mis f g i mm))])) _
        refine XS.ifYes X75.here hx rfl (pc0 := 47) (pc' := 54) rfl (hb hby d4_47) rfl (XT.i0_ge_t (k77 : ¬ ((own_mis f g i mm) < (0 : Int32)))) (by decide) (by decide) ?_
        show Steps p.tables e below (T75.setTop (mkF m 54 #[.val (.ref a1), .val (.int (Int32.ofNat i)), .val (.int (Int32.ofNat (i + mm))), .val (.ref a2), .val (.int (0 : Int32)), .val (.int (Int32.ofNat mm)), .val (.int (Int32.ofNat mm)), .val (.int (Int32.ofNat mm))] [])) _
        refine XS.iconst X75.here hx rfl (hb hby d4_54) ?_
        show Steps p.tables e below (T75.setTop (mkF m 55 #[.val (.ref a1), .val (.int (Int32.ofNat i)), .val (.int (Int32.ofNat (i + mm))), .val (.ref a2), .val (.int (0 : Int32)), .val (.int (Int32.ofNat mm)), .val (.int (Int32.ofNat mm)), .val (.int (Int32.ofNat mm))] [(.int (0 : Int32))])) _
        exact k)
    obtain ⟨fs, hr, hrun, hended, hW, hsame⟩ := X75.leave (v := some (.int (0 : Int32))) (fun h => by rw [Bd.returns] at h; cases h)
    refine ⟨_, _, q79 _ ?_, hrun, hended, _, _, rfl, ?_, ⟨_, rfl⟩, hW, hsame.mono (by decide) (by decide)⟩
    · show Steps p.tables e below (T75.setTop (mkF m 55 #[.val (.ref a1), .val (.int (Int32.ofNat i)), .val (.int (Int32.ofNat (i + mm))), .val (.ref a2), .val (.int (0 : Int32)), .val (.int (Int32.ofNat mm)), .val (.int (Int32.ofNat mm)), .val (.int (Int32.ofNat mm))] [(.int (0 : Int32))])) _
      exact retN X75 hx (t := .boolean) Bd.returns (by simp) (hb hby d4_55) hr
    · show QN (own_eqv f g i mm) h0 n0 _ T75.heap _
      exact ⟨by unfold own_eqv; rw [if_neg k77], N75, e75⟩
theorem ef_5 (m : MethodId) (x0 : Addr) (x1 : Addr) (x2 : Int32) : entryFrame m #[(.ref x0), (.ref x1), (.int x2)] 4 = mkF m 0 #[.val (.ref x0), .val (.ref x1), .val (.int x2), .unset] [] := by first | (simp [entryFrame, mkF, argsToLocals, Value.category]; done) | rfl
theorem d5_0 : decode method_4_code 0 = .ok (.iload_n 2, 1) := by decide +kernel
theorem d5_1 : decode method_4_code 1 = .ok (.aload_n 1, 1) := by decide +kernel
theorem d5_2 : decode method_4_code 2 = .ok (.arraylength, 1) := by decide +kernel
theorem d5_3 : decode method_4_code 3 = .ok (.iadd, 1) := by decide +kernel
theorem d5_4 : decode method_4_code 4 = .ok (.aload_n 0, 1) := by decide +kernel
theorem d5_5 : decode method_4_code 5 = .ok (.arraylength, 1) := by decide +kernel
theorem d5_6 : decode method_4_code 6 = .ok (.if_icmp .le 5, 3) := by decide +kernel
theorem d5_9 : decode method_4_code 9 = .ok (.iconst 0, 1) := by decide +kernel
theorem d5_10 : decode method_4_code 10 = .ok (.ireturn, 1) := by decide +kernel
theorem d5_11 : decode method_4_code 11 = .ok (.iconst 1, 1) := by decide +kernel
theorem d5_12 : decode method_4_code 12 = .ok (.istore_n 3, 1) := by decide +kernel
theorem d5_13 : decode method_4_code 13 = .ok (.aload_n 1, 1) := by decide +kernel
theorem d5_14 : decode method_4_code 14 = .ok (.arraylength, 1) := by decide +kernel
theorem d5_15 : decode method_4_code 15 = .ok (.ifCond .le 22, 3) := by decide +kernel
theorem d5_37 : decode method_4_code 37 = .ok (.aload_n 1, 1) := by decide +kernel
theorem d5_38 : decode method_4_code 38 = .ok (.arraylength, 1) := by decide +kernel
theorem d5_39 : decode method_4_code 39 = .ok (.iconst 1, 1) := by decide +kernel
theorem d5_40 : decode method_4_code 40 = .ok (.if_icmp .le 24, 3) := by decide +kernel
theorem d5_64 : decode method_4_code 64 = .ok (.aload_n 1, 1) := by decide +kernel
theorem d5_65 : decode method_4_code 65 = .ok (.arraylength, 1) := by decide +kernel
theorem d5_66 : decode method_4_code 66 = .ok (.iconst 2, 1) := by decide +kernel
theorem d5_67 : decode method_4_code 67 = .ok (.if_icmp .le 24, 3) := by decide +kernel
theorem d5_91 : decode method_4_code 91 = .ok (.iload_n 3, 1) := by decide +kernel
theorem d5_92 : decode method_4_code 92 = .ok (.ireturn, 1) := by decide +kernel
theorem d5_18 : decode method_4_code 18 = .ok (.iload_n 3, 1) := by decide +kernel
theorem d5_19 : decode method_4_code 19 = .ok (.ifCond .eq 16, 3) := by decide +kernel
theorem d5_22 : decode method_4_code 22 = .ok (.aload_n 0, 1) := by decide +kernel
theorem d5_23 : decode method_4_code 23 = .ok (.iload_n 2, 1) := by decide +kernel
theorem d5_24 : decode method_4_code 24 = .ok (.baload, 1) := by decide +kernel
theorem d5_25 : decode method_4_code 25 = .ok (.aload_n 1, 1) := by decide +kernel
theorem d5_26 : decode method_4_code 26 = .ok (.iconst 0, 1) := by decide +kernel
theorem d5_27 : decode method_4_code 27 = .ok (.baload, 1) := by decide +kernel
theorem d5_28 : decode method_4_code 28 = .ok (.if_icmp .ne 7, 3) := by decide +kernel
theorem d5_31 : decode method_4_code 31 = .ok (.iconst 1, 1) := by decide +kernel
theorem d5_32 : decode method_4_code 32 = .ok (.goto 4, 3) := by decide +kernel
theorem d5_36 : decode method_4_code 36 = .ok (.istore_n 3, 1) := by decide +kernel
theorem d5_35 : decode method_4_code 35 = .ok (.iconst 0, 1) := by decide +kernel
theorem d5_43 : decode method_4_code 43 = .ok (.iload_n 3, 1) := by decide +kernel
theorem d5_44 : decode method_4_code 44 = .ok (.ifCond .eq 18, 3) := by decide +kernel
theorem d5_47 : decode method_4_code 47 = .ok (.aload_n 0, 1) := by decide +kernel
theorem d5_48 : decode method_4_code 48 = .ok (.iload_n 2, 1) := by decide +kernel
theorem d5_49 : decode method_4_code 49 = .ok (.iconst 1, 1) := by decide +kernel
theorem d5_50 : decode method_4_code 50 = .ok (.iadd, 1) := by decide +kernel
theorem d5_51 : decode method_4_code 51 = .ok (.baload, 1) := by decide +kernel
theorem d5_52 : decode method_4_code 52 = .ok (.aload_n 1, 1) := by decide +kernel
theorem d5_53 : decode method_4_code 53 = .ok (.iconst 1, 1) := by decide +kernel
theorem d5_54 : decode method_4_code 54 = .ok (.baload, 1) := by decide +kernel
theorem d5_55 : decode method_4_code 55 = .ok (.if_icmp .ne 7, 3) := by decide +kernel
theorem d5_58 : decode method_4_code 58 = .ok (.iconst 1, 1) := by decide +kernel
theorem d5_59 : decode method_4_code 59 = .ok (.goto 4, 3) := by decide +kernel
theorem d5_63 : decode method_4_code 63 = .ok (.istore_n 3, 1) := by decide +kernel
theorem d5_62 : decode method_4_code 62 = .ok (.iconst 0, 1) := by decide +kernel
theorem d5_70 : decode method_4_code 70 = .ok (.iload_n 3, 1) := by decide +kernel
theorem d5_71 : decode method_4_code 71 = .ok (.ifCond .eq 18, 3) := by decide +kernel
theorem d5_74 : decode method_4_code 74 = .ok (.aload_n 0, 1) := by decide +kernel
theorem d5_75 : decode method_4_code 75 = .ok (.iload_n 2, 1) := by decide +kernel
theorem d5_76 : decode method_4_code 76 = .ok (.iconst 2, 1) := by decide +kernel
theorem d5_77 : decode method_4_code 77 = .ok (.iadd, 1) := by decide +kernel
theorem d5_78 : decode method_4_code 78 = .ok (.baload, 1) := by decide +kernel
theorem d5_79 : decode method_4_code 79 = .ok (.aload_n 1, 1) := by decide +kernel
theorem d5_80 : decode method_4_code 80 = .ok (.iconst 2, 1) := by decide +kernel
theorem d5_81 : decode method_4_code 81 = .ok (.baload, 1) := by decide +kernel
theorem d5_82 : decode method_4_code 82 = .ok (.if_icmp .ne 7, 3) := by decide +kernel
theorem d5_85 : decode method_4_code 85 = .ok (.iconst 1, 1) := by decide +kernel
theorem d5_86 : decode method_4_code 86 = .ok (.goto 4, 3) := by decide +kernel
theorem d5_90 : decode method_4_code 90 = .ok (.istore_n 3, 1) := by decide +kernel
theorem d5_89 : decode method_4_code 89 = .ok (.iconst 0, 1) := by decide +kernel
set_option maxRecDepth 65536 in
set_option maxHeartbeats 40000000 in
theorem rm5 (l : Launch) (Z : State) (a0 : Array Value) (hw : ∀ d ∈ tables_1, d.before a0 Z = true) (ws : List Jvm.Cond) (a1 a2 : Addr) (n mm i : Nat) (hn : n ≤ 7) (hm : mm ≤ 3) (f g : Nat → Int32) (cl1 cl2 : Cell) (h0 : Heap) (n0 : Nat) (Z0 : n0 ≤ h0.size) (hi7 : i ≤ 9) (Ar1 : Arr Z h0 a1 cl1 .byte) (S1 : cl1.slots.size = n) (H1 : ∀ i, i < cl1.slots.size → cl1.slots[i]? = some (.int (f i))) (Ar2 : Arr Z h0 a2 cl2 .byte) (S2 : cl2.slots.size = mm) (H2 : ∀ i, i < cl2.slots.size → cl2.slots[i]? = some (.int (g i))) :
    MetFree l (⟨"com/example/orbweaver/orbweaver/store/GzipMembersIndexOfPinLaw", "matchAt", "([B[BI)Z"⟩ : MethodName) (head1 (Jvm.Cond.code (⟨"com/example/orbweaver/orbweaver/store/GzipMembersIndexOfPinLaw", "matchAt", "([B[BI)Z"⟩ : MethodName) method_4_code 4 (some .boolean) :: ws) ({ frames := 0, cells := 0, slots := 0, locals := 0 } : Room)) (fun a U => a = #[(.ref a1), (.ref a2), (.int (Int32.ofNat i))] ∧ Z.Warmed39 U.vm ∧ U.heap = h0) (fun _ _ _ _ _ => True) (fun _ U o U' => ∃ v L, o = .returned v ∧ QN (own_mt f g n mm i) h0 n0 v U'.heap L ∧ FrameEnd U o U' L ({ frames := 0, cells := 0, slots := 0, locals := 0 } : Room).cells ({ frames := 0, cells := 0, slots := 0, locals := 0 } : Room).slots) := by
  refine MetFree.of_bodySF (plainFor_of_name pn_com_example_orbweaver_orbweaver_store_GzipMembersIndexOfPinLaw) hisR ?_
  intro p e s m args below meth c s₁ Bd hml0 hP hK
  obtain ⟨rfl, hZ, hh⟩ := hP
  have hx := Bd.exec
  have hby := Bd.bytes
  have hml : c.maxLocals = 4 := hml0
  have hown : s.vm.findClass "com/example/orbweaver/orbweaver/store/GzipMembersIndexOfPinLaw" = some m.cls := findClass_of_methodNamed Bd.named
  have hnm := (name_of_methodNamed Bd.named Bd.method).1
  have X0 : Stand p l e ({ frames := 0, cells := 0, slots := 0, locals := 0 } : Room) s m #[(.ref a1), (.ref a2), (.int (Int32.ofNat i))] below meth c s₁ [] 0 0 := Stand.of_body Bd
  have e0 : s₁.heap = h0 := by rw [← hh, Bd.state]; rfl
  have N0 := Fr.nil n0
  have pre0 : ∀ t, Steps p.tables e below (s₁.setTop (mkF m 0 #[.val (.ref a1), .val (.ref a2), .val (.int (Int32.ofNat i)), .unset] [])) t → Steps p.tables e below (s₁.setTop (entryFrame m #[(.ref a1), (.ref a2), (.int (Int32.ofNat i))] 4)) t := fun t k => castTop (ef_5 m a1 a2 (Int32.ofNat i)) k
  have S1' : cl1.slots.size = (Int32.ofNat n).toNatClampNeg := by rw [own_n32 (by omega)]; exact S1
  have M1' : ¬ Int32.ofNat n < 0 := own_neg (by omega)
  have hm' : mm = 0 ∨ mm = 1 ∨ mm = 2 ∨ mm = 3 := by omega
  rcases hm' with rfl | rfl | rfl | rfl
  · skip
    have S2' : cl2.slots.size = (Int32.ofNat 0).toNatClampNeg := by rw [own_n32 (by omega)]; exact S2
    have M2' : ¬ Int32.ofNat 0 < 0 := own_neg (by omega)
    have q80 : ∀ t, Steps p.tables e below (s₁.setTop (mkF m 5 #[.val (.ref a1), .val (.ref a2), .val (.int (Int32.ofNat i)), .unset] [(.ref a1), (.int ((Int32.ofNat i) + (Int32.ofNat 0)))])) t → Steps p.tables e below (s₁.setTop (entryFrame m #[(.ref a1), (.ref a2), (.int (Int32.ofNat i))] 4)) t := fun t k => pre0 t (by
        show Steps p.tables e below (s₁.setTop (mkF m 0 #[.val (.ref a1), .val (.ref a2), .val (.int (Int32.ofNat i)), .unset] [])) _
        refine XS.iloadN X0.here hx rfl (hb hby d5_0) rfl ?_
        show Steps p.tables e below (s₁.setTop (mkF m 1 #[.val (.ref a1), .val (.ref a2), .val (.int (Int32.ofNat i)), .unset] [(.int (Int32.ofNat i))])) _
        refine XS.aloadN X0.here hx rfl (hb hby d5_1) rfl rfl ?_
        show Steps p.tables e below (s₁.setTop (mkF m 2 #[.val (.ref a1), .val (.ref a2), .val (.int (Int32.ofNat i)), .unset] [(.ref a2), (.int (Int32.ofNat i))])) _
        refine X0.arraylength hx (cell := cl2) (by rw [e0]; exact Ar2.1) (State.isArrayOf_alike hZ.alike Ar2.2.1) (g := (mkF m 2 #[.val (.ref a1), .val (.ref a2), .val (.int (Int32.ofNat i)), .unset] [(.ref a2), (.int (Int32.ofNat i))])) rfl (rest := [(.int (Int32.ofNat i))]) rfl (hb hby d5_2) _ ?_
        rw [len_of S2' M2']
        show Steps p.tables e below (s₁.setTop (mkF m 3 #[.val (.ref a1), .val (.ref a2), .val (.int (Int32.ofNat i)), .unset] [(.int (Int32.ofNat 0)), (.int (Int32.ofNat i))])) _
        refine XS.iadd X0.here hx rfl (hb hby d5_3) rfl ?_
        show Steps p.tables e below (s₁.setTop (mkF m 4 #[.val (.ref a1), .val (.ref a2), .val (.int (Int32.ofNat i)), .unset] [(.int ((Int32.ofNat i) + (Int32.ofNat 0)))])) _
        refine XS.aloadN X0.here hx rfl (hb hby d5_4) rfl rfl ?_
        show Steps p.tables e below (s₁.setTop (mkF m 5 #[.val (.ref a1), .val (.ref a2), .val (.int (Int32.ofNat i)), .unset] [(.ref a1), (.int ((Int32.ofNat i) + (Int32.ofNat 0)))])) _
        exact k)
    have q81 : ∀ t, Steps p.tables e below (s₁.setTop (mkF m 5 #[.val (.ref a1), .val (.ref a2), .val (.int (Int32.ofNat i)), .unset] [(.ref a1), (.int (Int32.ofNat (i + 0)))])) t → Steps p.tables e below (s₁.setTop (entryFrame m #[(.ref a1), (.ref a2), (.int (Int32.ofNat i))] 4)) t := fun t k => q80 t (by rw [show ((Int32.ofNat i) + (Int32.ofNat 0)) = (Int32.ofNat (i + 0)) from (own_add i 0).symm]; exact k)
    have q82 : ∀ t, Steps p.tables e below (s₁.setTop (mkF m 6 #[.val (.ref a1), .val (.ref a2), .val (.int (Int32.ofNat i)), .unset] [(.int (Int32.ofNat n)), (.int (Int32.ofNat (i + 0)))])) t → Steps p.tables e below (s₁.setTop (entryFrame m #[(.ref a1), (.ref a2), (.int (Int32.ofNat i))] 4)) t := fun t k => q81 t (by
        show Steps p.tables e below (s₁.setTop (mkF m 5 #[.val (.ref a1), .val (.ref a2), .val (.int (Int32.ofNat i)), .unset] [(.ref a1), (.int (Int32.ofNat (i + 0)))])) _
        refine X0.arraylength hx (cell := cl1) (by rw [e0]; exact Ar1.1) (State.isArrayOf_alike hZ.alike Ar1.2.1) (g := (mkF m 5 #[.val (.ref a1), .val (.ref a2), .val (.int (Int32.ofNat i)), .unset] [(.ref a1), (.int (Int32.ofNat (i + 0)))])) rfl (rest := [(.int (Int32.ofNat (i + 0)))]) rfl (hb hby d5_5) _ ?_
        rw [len_of S1' M1']
        show Steps p.tables e below (s₁.setTop (mkF m 6 #[.val (.ref a1), .val (.ref a2), .val (.int (Int32.ofNat i)), .unset] [(.int (Int32.ofNat n)), (.int (Int32.ofNat (i + 0)))])) _
        exact k)
    by_cases kf : (Int32.ofNat n) < (Int32.ofNat (i + 0))
    · skip
      have q83 : ∀ t, Steps p.tables e below (s₁.setTop (mkF m 10 #[.val (.ref a1), .val (.ref a2), .val (.int (Int32.ofNat i)), .unset] [(.int (0 : Int32))])) t → Steps p.tables e below (s₁.setTop (entryFrame m #[(.ref a1), (.ref a2), (.int (Int32.ofNat i))] 4)) t := fun t k => q82 t (by
          show Steps p.tables e below (s₁.setTop (mkF m 6 #[.val (.ref a1), .val (.ref a2), .val (.int (Int32.ofNat i)), .unset] [(.int (Int32.ofNat n)), (.int (Int32.ofNat (i + 0)))])) _
          refine XS.icmpNo X0.here hx rfl (hb hby d5_6) rfl (XT.ii_le_f (kf : (Int32.ofNat n) < (Int32.ofNat (i + 0)))) ?_
          show Steps p.tables e below (s₁.setTop (mkF m 9 #[.val (.ref a1), .val (.ref a2), .val (.int (Int32.ofNat i)), .unset] [])) _
          refine XS.iconst X0.here hx rfl (hb hby d5_9) ?_
          show Steps p.tables e below (s₁.setTop (mkF m 10 #[.val (.ref a1), .val (.ref a2), .val (.int (Int32.ofNat i)), .unset] [(.int (0 : Int32))])) _
          exact k)
      obtain ⟨fs, hr, hrun, hended, hW, hsame⟩ := X0.leave (v := some (.int (0 : Int32))) (fun h => by rw [Bd.returns] at h; cases h)
      refine ⟨_, _, q83 _ ?_, hrun, hended, _, _, rfl, ?_, ⟨_, rfl⟩, hW, hsame.mono (by decide) (by decide)⟩
      · show Steps p.tables e below (s₁.setTop (mkF m 10 #[.val (.ref a1), .val (.ref a2), .val (.int (Int32.ofNat i)), .unset] [(.int (0 : Int32))])) _
        exact retN X0 hx (t := .boolean) Bd.returns (by simp) (hb hby d5_10) hr
      · show QN (own_mt f g n 0 i) h0 n0 _ s₁.heap _
        exact ⟨by unfold own_mt; rw [if_pos ((own_ltn (by omega) (by omega)).mp kf)], N0, e0⟩
    · skip
      have hi : i + 0 ≤ n := Nat.le_of_not_lt fun y => kf ((own_ltn (by omega) (by omega)).mpr y)
      have q84 : ∀ t, Steps p.tables e below (s₁.setTop (mkF m 92 #[.val (.ref a1), .val (.ref a2), .val (.int (Int32.ofNat i)), .val (.int (1 : Int32))] [(.int (1 : Int32))])) t → Steps p.tables e below (s₁.setTop (entryFrame m #[(.ref a1), (.ref a2), (.int (Int32.ofNat i))] 4)) t := fun t k => q82 t (by
          show Steps p.tables e below (s₁.setTop (mkF m 6 #[.val (.ref a1), .val (.ref a2), .val (.int (Int32.ofNat i)), .unset] [(.int (Int32.ofNat n)), (.int (Int32.ofNat (i + 0)))])) _
          refine XS.icmpYes X0.here hx rfl (pc0 := 6) (pc' := 11) rfl (hb hby d5_6) rfl (XT.ii_le_t (kf : ¬ ((Int32.ofNat n) < (Int32.ofNat (i + 0))))) (by decide) (by decide) ?_
          show Steps p.tables e below (s₁.setTop (mkF m 11 #[.val (.ref a1), .val (.ref a2), .val (.int (Int32.ofNat i)), .unset] [])) _
          refine XS.iconst X0.here hx rfl (hb hby d5_11) ?_
          show Steps p.tables e below (s₁.setTop (mkF m 12 #[.val (.ref a1), .val (.ref a2), .val (.int (Int32.ofNat i)), .unset] [(.int (1 : Int32))])) _
          refine XS.istoreN X0.here hx rfl (hb hby d5_12) rfl (l' := #[.val (.ref a1), .val (.ref a2), .val (.int (Int32.ofNat i)), .val (.int (1 : Int32))]) rfl ?_
          show Steps p.tables e below (s₁.setTop (mkF m 13 #[.val (.ref a1), .val (.ref a2), .val (.int (Int32.ofNat i)), .val (.int (1 : Int32))] [])) _
          refine XS.aloadN X0.here hx rfl (hb hby d5_13) rfl rfl ?_
          show Steps p.tables e below (s₁.setTop (mkF m 14 #[.val (.ref a1), .val (.ref a2), .val (.int (Int32.ofNat i)), .val (.int (1 : Int32))] [(.ref a2)])) _
          refine X0.arraylength hx (cell := cl2) (by rw [e0]; exact Ar2.1) (State.isArrayOf_alike hZ.alike Ar2.2.1) (g := (mkF m 14 #[.val (.ref a1), .val (.ref a2), .val (.int (Int32.ofNat i)), .val (.int (1 : Int32))] [(.ref a2)])) rfl (rest := []) rfl (hb hby d5_14) _ ?_
          rw [len_of S2' M2']
          show Steps p.tables e below (s₁.setTop (mkF m 15 #[.val (.ref a1), .val (.ref a2), .val (.int (Int32.ofNat i)), .val (.int (1 : Int32))] [(.int (Int32.ofNat 0))])) _
          refine XS.ifYes X0.here hx rfl (pc0 := 15) (pc' := 37) rfl (hb hby d5_15) rfl (XT.i0_le_t (by decide : ¬ ((0 : Int32) < (Int32.ofNat 0)))) (by decide) (by decide) ?_
          show Steps p.tables e below (s₁.setTop (mkF m 37 #[.val (.ref a1), .val (.ref a2), .val (.int (Int32.ofNat i)), .val (.int (1 : Int32))] [])) _
          refine XS.aloadN X0.here hx rfl (hb hby d5_37) rfl rfl ?_
          show Steps p.tables e below (s₁.setTop (mkF m 38 #[.val (.ref a1), .val (.ref a2), .val (.int (Int32.ofNat i)), .val (.int (1 : Int32))] [(.ref a2)])) _
          refine X0.arraylength hx (cell := cl2) (by rw [e0]; exact Ar2.1) (State.isArrayOf_alike hZ.alike Ar2.2.1) (g := (mkF m 38 #[.val (.ref a1), .val (.ref a2), .val (.int (Int32.ofNat i)), .val (.int (1 : Int32))] [(.ref a2)])) rfl (rest := []) rfl (hb hby d5_38) _ ?_
          rw [len_of S2' M2']
          show Steps p.tables e below (s₁.setTop (mkF m 39 #[.val (.ref a1), .val (.ref a2), .val (.int (Int32.ofNat i)), .val (.int (1 : Int32))] [(.int (Int32.ofNat 0))])) _
          refine XS.iconst X0.here hx rfl (hb hby d5_39) ?_
          show Steps p.tables e below (s₁.setTop (mkF m 40 #[.val (.ref a1), .val (.ref a2), .val (.int (Int32.ofNat i)), .val (.int (1 : Int32))] [(.int (1 : Int32)), (.int (Int32.ofNat 0))])) _
          refine XS.icmpYes X0.here hx rfl (pc0 := 40) (pc' := 64) rfl (hb hby d5_40) rfl (XT.ii_le_t (by decide : ¬ ((1 : Int32) < (Int32.ofNat 0)))) (by decide) (by decide) ?_
          show Steps p.tables e below (s₁.setTop (mkF m 64 #[.val (.ref a1), .val (.ref a2), .val (.int (Int32.ofNat i)), .val (.int (1 : Int32))] [])) _
          refine XS.aloadN X0.here hx rfl (hb hby d5_64) rfl rfl ?_
          show Steps p.tables e below (s₁.setTop (mkF m 65 #[.val (.ref a1), .val (.ref a2), .val (.int (Int32.ofNat i)), .val (.int (1 : Int32))] [(.ref a2)])) _
          refine X0.arraylength hx (cell := cl2) (by rw [e0]; exact Ar2.1) (State.isArrayOf_alike hZ.alike Ar2.2.1) (g := (mkF m 65 #[.val (.ref a1), .val (.ref a2), .val (.int (Int32.ofNat i)), .val (.int (1 : Int32))] [(.ref a2)])) rfl (rest := []) rfl (hb hby d5_65) _ ?_
          rw [len_of S2' M2']
          show Steps p.tables e below (s₁.setTop (mkF m 66 #[.val (.ref a1), .val (.ref a2), .val (.int (Int32.ofNat i)), .val (.int (1 : Int32))] [(.int (Int32.ofNat 0))])) _
          refine XS.iconst X0.here hx rfl (hb hby d5_66) ?_
          show Steps p.tables e below (s₁.setTop (mkF m 67 #[.val (.ref a1), .val (.ref a2), .val (.int (Int32.ofNat i)), .val (.int (1 : Int32))] [(.int (2 : Int32)), (.int (Int32.ofNat 0))])) _
          refine XS.icmpYes X0.here hx rfl (pc0 := 67) (pc' := 91) rfl (hb hby d5_67) rfl (XT.ii_le_t (by decide : ¬ ((2 : Int32) < (Int32.ofNat 0)))) (by decide) (by decide) ?_
          show Steps p.tables e below (s₁.setTop (mkF m 91 #[.val (.ref a1), .val (.ref a2), .val (.int (Int32.ofNat i)), .val (.int (1 : Int32))] [])) _
          refine XS.iloadN X0.here hx rfl (hb hby d5_91) rfl ?_
          show Steps p.tables e below (s₁.setTop (mkF m 92 #[.val (.ref a1), .val (.ref a2), .val (.int (Int32.ofNat i)), .val (.int (1 : Int32))] [(.int (1 : Int32))])) _
          exact k)
      obtain ⟨fs, hr, hrun, hended, hW, hsame⟩ := X0.leave (v := some (.int (1 : Int32))) (fun h => by rw [Bd.returns] at h; cases h)
      refine ⟨_, _, q84 _ ?_, hrun, hended, _, _, rfl, ?_, ⟨_, rfl⟩, hW, hsame.mono (by decide) (by decide)⟩
      · show Steps p.tables e below (s₁.setTop (mkF m 92 #[.val (.ref a1), .val (.ref a2), .val (.int (Int32.ofNat i)), .val (.int (1 : Int32))] [(.int (1 : Int32))])) _
        exact retN X0 hx (t := .boolean) Bd.returns (by simp) (hb hby d5_92) hr
      · show QN (own_mt f g n 0 i) h0 n0 _ s₁.heap _
        exact ⟨by unfold own_mt own_eqv; rw [if_neg (by omega), own_mis0] <;> rfl, N0, e0⟩
  · skip
    have S2' : cl2.slots.size = (Int32.ofNat 1).toNatClampNeg := by rw [own_n32 (by omega)]; exact S2
    have M2' : ¬ Int32.ofNat 1 < 0 := own_neg (by omega)
    have q85 : ∀ t, Steps p.tables e below (s₁.setTop (mkF m 5 #[.val (.ref a1), .val (.ref a2), .val (.int (Int32.ofNat i)), .unset] [(.ref a1), (.int ((Int32.ofNat i) + (Int32.ofNat 1)))])) t → Steps p.tables e below (s₁.setTop (entryFrame m #[(.ref a1), (.ref a2), (.int (Int32.ofNat i))] 4)) t := fun t k => pre0 t (by
        show Steps p.tables e below (s₁.setTop (mkF m 0 #[.val (.ref a1), .val (.ref a2), .val (.int (Int32.ofNat i)), .unset] [])) _
        refine XS.iloadN X0.here hx rfl (hb hby d5_0) rfl ?_
        show Steps p.tables e below (s₁.setTop (mkF m 1 #[.val (.ref a1), .val (.ref a2), .val (.int (Int32.ofNat i)), .unset] [(.int (Int32.ofNat i))])) _
        refine XS.aloadN X0.here hx rfl (hb hby d5_1) rfl rfl ?_
        show Steps p.tables e below (s₁.setTop (mkF m 2 #[.val (.ref a1), .val (.ref a2), .val (.int (Int32.ofNat i)), .unset] [(.ref a2), (.int (Int32.ofNat i))])) _
        refine X0.arraylength hx (cell := cl2) (by rw [e0]; exact Ar2.1) (State.isArrayOf_alike hZ.alike Ar2.2.1) (g := (mkF m 2 #[.val (.ref a1), .val (.ref a2), .val (.int (Int32.ofNat i)), .unset] [(.ref a2), (.int (Int32.ofNat i))])) rfl (rest := [(.int (Int32.ofNat i))]) rfl (hb hby d5_2) _ ?_
        rw [len_of S2' M2']
        show Steps p.tables e below (s₁.setTop (mkF m 3 #[.val (.ref a1), .val (.ref a2), .val (.int (Int32.ofNat i)), .unset] [(.int (Int32.ofNat 1)), (.int (Int32.ofNat i))])) _
        refine XS.iadd X0.here hx rfl (hb hby d5_3) rfl ?_
        show Steps p.tables e below (s₁.setTop (mkF m 4 #[.val (.ref a1), .val (.ref a2), .val (.int (Int32.ofNat i)), .unset] [(.int ((Int32.ofNat i) + (Int32.ofNat 1)))])) _
        refine XS.aloadN X0.here hx rfl (hb hby d5_4) rfl rfl ?_
        show Steps p.tables e below (s₁.setTop (mkF m 5 #[.val (.ref a1), .val (.ref a2), .val (.int (Int32.ofNat i)), .unset] [(.ref a1), (.int ((Int32.ofNat i) + (Int32.ofNat 1)))])) _
        exact k)
    have q86 : ∀ t, Steps p.tables e below (s₁.setTop (mkF m 5 #[.val (.ref a1), .val (.ref a2), .val (.int (Int32.ofNat i)), .unset] [(.ref a1), (.int (Int32.ofNat (i + 1)))])) t → Steps p.tables e below (s₁.setTop (entryFrame m #[(.ref a1), (.ref a2), (.int (Int32.ofNat i))] 4)) t := fun t k => q85 t (by rw [show ((Int32.ofNat i) + (Int32.ofNat 1)) = (Int32.ofNat (i + 1)) from (own_add i 1).symm]; exact k)
    have q87 : ∀ t, Steps p.tables e below (s₁.setTop (mkF m 6 #[.val (.ref a1), .val (.ref a2), .val (.int (Int32.ofNat i)), .unset] [(.int (Int32.ofNat n)), (.int (Int32.ofNat (i + 1)))])) t → Steps p.tables e below (s₁.setTop (entryFrame m #[(.ref a1), (.ref a2), (.int (Int32.ofNat i))] 4)) t := fun t k => q86 t (by
        show Steps p.tables e below (s₁.setTop (mkF m 5 #[.val (.ref a1), .val (.ref a2), .val (.int (Int32.ofNat i)), .unset] [(.ref a1), (.int (Int32.ofNat (i + 1)))])) _
        refine X0.arraylength hx (cell := cl1) (by rw [e0]; exact Ar1.1) (State.isArrayOf_alike hZ.alike Ar1.2.1) (g := (mkF m 5 #[.val (.ref a1), .val (.ref a2), .val (.int (Int32.ofNat i)), .unset] [(.ref a1), (.int (Int32.ofNat (i + 1)))])) rfl (rest := [(.int (Int32.ofNat (i + 1)))]) rfl (hb hby d5_5) _ ?_
        rw [len_of S1' M1']
        show Steps p.tables e below (s₁.setTop (mkF m 6 #[.val (.ref a1), .val (.ref a2), .val (.int (Int32.ofNat i)), .unset] [(.int (Int32.ofNat n)), (.int (Int32.ofNat (i + 1)))])) _
        exact k)
    by_cases kf : (Int32.ofNat n) < (Int32.ofNat (i + 1))
    · skip
      have q88 : ∀ t, Steps p.tables e below (s₁.setTop (mkF m 10 #[.val (.ref a1), .val (.ref a2), .val (.int (Int32.ofNat i)), .unset] [(.int (0 : Int32))])) t → Steps p.tables e below (s₁.setTop (entryFrame m #[(.ref a1), (.ref a2), (.int (Int32.ofNat i))] 4)) t := fun t k => q87 t (by
          show Steps p.tables e below (s₁.setTop (mkF m 6 #[.val (.ref a1), .val (.ref a2), .val (.int (Int32.ofNat i)), .unset] [(.int (Int32.ofNat n)), (.int (Int32.ofNat (i + 1)))])) _
          refine XS.icmpNo X0.here hx rfl (hb hby d5_6) rfl (XT.ii_le_f (kf : (Int32.ofNat n) < (Int32.ofNat (i + 1)))) ?_
          show Steps p.tables e below (s₁.setTop (mkF m 9 #[.val (.ref a1), .val (.ref a2), .val (.int (Int32.ofNat i)), .unset] [])) _
          refine XS.iconst X0.here hx rfl (hb hby d5_9) ?_
          show Steps p.tables e below (s₁.setTop (mkF m 10 #[.val (.ref a1), .val (.ref a2), .val (.int (Int32.ofNat i)), .unset] [(.int (0 : Int32))])) _
          exact k)
      obtain ⟨fs, hr, hrun, hended, hW, hsame⟩ := X0.leave (v := some (.int (0 : Int32))) (fun h => by rw [Bd.returns] at h; cases h)
      refine ⟨_, _, q88 _ ?_, hrun, hended, _, _, rfl, ?_, ⟨_, rfl⟩, hW, hsame.mono (by decide) (by decide)⟩
      · show Steps p.tables e below (s₁.setTop (mkF m 10 #[.val (.ref a1), .val (.ref a2), .val (.int (Int32.ofNat i)), .unset] [(.int (0 : Int32))])) _
        exact retN X0 hx (t := .boolean) Bd.returns (by simp) (hb hby d5_10) hr
      · show QN (own_mt f g n 1 i) h0 n0 _ s₁.heap _
        exact ⟨by unfold own_mt; rw [if_pos ((own_ltn (by omega) (by omega)).mp kf)], N0, e0⟩
    · skip
      have hi : i + 1 ≤ n := Nat.le_of_not_lt fun y => kf ((own_ltn (by omega) (by omega)).mpr y)
      have q89 : ∀ t, Steps p.tables e below (s₁.setTop (mkF m 28 #[.val (.ref a1), .val (.ref a2), .val (.int (Int32.ofNat i)), .val (.int (1 : Int32))] [(.int (g 0)), (.int (f (i + 0)))])) t → Steps p.tables e below (s₁.setTop (entryFrame m #[(.ref a1), (.ref a2), (.int (Int32.ofNat i))] 4)) t := fun t k => q87 t (by
          show Steps p.tables e below (s₁.setTop (mkF m 6 #[.val (.ref a1), .val (.ref a2), .val (.int (Int32.ofNat i)), .unset] [(.int (Int32.ofNat n)), (.int (Int32.ofNat (i + 1)))])) _
          refine XS.icmpYes X0.here hx rfl (pc0 := 6) (pc' := 11) rfl (hb hby d5_6) rfl (XT.ii_le_t (kf : ¬ ((Int32.ofNat n) < (Int32.ofNat (i + 1))))) (by decide) (by decide) ?_
          show Steps p.tables e below (s₁.setTop (mkF m 11 #[.val (.ref a1), .val (.ref a2), .val (.int (Int32.ofNat i)), .unset] [])) _
          refine XS.iconst X0.here hx rfl (hb hby d5_11) ?_
          show Steps p.tables e below (s₁.setTop (mkF m 12 #[.val (.ref a1), .val (.ref a2), .val (.int (Int32.ofNat i)), .unset] [(.int (1 : Int32))])) _
          refine XS.istoreN X0.here hx rfl (hb hby d5_12) rfl (l' := #[.val (.ref a1), .val (.ref a2), .val (.int (Int32.ofNat i)), .val (.int (1 : Int32))]) rfl ?_
          show Steps p.tables e below (s₁.setTop (mkF m 13 #[.val (.ref a1), .val (.ref a2), .val (.int (Int32.ofNat i)), .val (.int (1 : Int32))] [])) _
          refine XS.aloadN X0.here hx rfl (hb hby d5_13) rfl rfl ?_
          show Steps p.tables e below (s₁.setTop (mkF m 14 #[.val (.ref a1), .val (.ref a2), .val (.int (Int32.ofNat i)), .val (.int (1 : Int32))] [(.ref a2)])) _
          refine X0.arraylength hx (cell := cl2) (by rw [e0]; exact Ar2.1) (State.isArrayOf_alike hZ.alike Ar2.2.1) (g := (mkF m 14 #[.val (.ref a1), .val (.ref a2), .val (.int (Int32.ofNat i)), .val (.int (1 : Int32))] [(.ref a2)])) rfl (rest := []) rfl (hb hby d5_14) _ ?_
          rw [len_of S2' M2']
          show Steps p.tables e below (s₁.setTop (mkF m 15 #[.val (.ref a1), .val (.ref a2), .val (.int (Int32.ofNat i)), .val (.int (1 : Int32))] [(.int (Int32.ofNat 1))])) _
          refine XS.ifNo X0.here hx rfl (hb hby d5_15) rfl (XT.i0_le_f (by decide : (0 : Int32) < (Int32.ofNat 1))) ?_
          show Steps p.tables e below (s₁.setTop (mkF m 18 #[.val (.ref a1), .val (.ref a2), .val (.int (Int32.ofNat i)), .val (.int (1 : Int32))] [])) _
          refine XS.iloadN X0.here hx rfl (hb hby d5_18) rfl ?_
          show Steps p.tables e below (s₁.setTop (mkF m 19 #[.val (.ref a1), .val (.ref a2), .val (.int (Int32.ofNat i)), .val (.int (1 : Int32))] [(.int (1 : Int32))])) _
          refine XS.ifNo X0.here hx rfl (hb hby d5_19) rfl (XT.i0_eq_f (by decide : ¬ ((1 : Int32) = (0 : Int32)))) ?_
          show Steps p.tables e below (s₁.setTop (mkF m 22 #[.val (.ref a1), .val (.ref a2), .val (.int (Int32.ofNat i)), .val (.int (1 : Int32))] [])) _
          refine XS.aloadN X0.here hx rfl (hb hby d5_22) rfl rfl ?_
          show Steps p.tables e below (s₁.setTop (mkF m 23 #[.val (.ref a1), .val (.ref a2), .val (.int (Int32.ofNat i)), .val (.int (1 : Int32))] [(.ref a1)])) _
          refine XS.iloadN X0.here hx rfl (hb hby d5_23) rfl ?_
          show Steps p.tables e below (s₁.setTop (mkF m 24 #[.val (.ref a1), .val (.ref a2), .val (.int (Int32.ofNat i)), .val (.int (1 : Int32))] [(.int (Int32.ofNat i)), (.ref a1)])) _
          refine X0.baloadBytes hx (j := (Int32.ofNat i)) (v := (.int (f (i + 0)))) (by rw [e0]; exact Ar1.1) (State.isArrayOf_alike hZ.alike Ar1.2.1) Ar1.2.2 (own_in S1 (by omega) (by omega)) (own_hat S1 H1 (by omega) (by omega)) (g := (mkF m 24 #[.val (.ref a1), .val (.ref a2), .val (.int (Int32.ofNat i)), .val (.int (1 : Int32))] [(.int (Int32.ofNat i)), (.ref a1)])) rfl rfl (hb hby d5_24) _ ?_
          show Steps p.tables e below (s₁.setTop (mkF m 25 #[.val (.ref a1), .val (.ref a2), .val (.int (Int32.ofNat i)), .val (.int (1 : Int32))] [(.int (f (i + 0)))])) _
          refine XS.aloadN X0.here hx rfl (hb hby d5_25) rfl rfl ?_
          show Steps p.tables e below (s₁.setTop (mkF m 26 #[.val (.ref a1), .val (.ref a2), .val (.int (Int32.ofNat i)), .val (.int (1 : Int32))] [(.ref a2), (.int (f (i + 0)))])) _
          refine XS.iconst X0.here hx rfl (hb hby d5_26) ?_
          show Steps p.tables e below (s₁.setTop (mkF m 27 #[.val (.ref a1), .val (.ref a2), .val (.int (Int32.ofNat i)), .val (.int (1 : Int32))] [(.int (0 : Int32)), (.ref a2), (.int (f (i + 0)))])) _
          refine X0.baloadBytes hx (j := (0 : Int32)) (v := (.int (g 0))) (by rw [e0]; exact Ar2.1) (State.isArrayOf_alike hZ.alike Ar2.2.1) Ar2.2.2 (by rw [S2]; decide) (H2 0 (by rw [S2]; decide)) (g := (mkF m 27 #[.val (.ref a1), .val (.ref a2), .val (.int (Int32.ofNat i)), .val (.int (1 : Int32))] [(.int (0 : Int32)), (.ref a2), (.int (f (i + 0)))])) rfl rfl (hb hby d5_27) _ ?_
          show Steps p.tables e below (s₁.setTop (mkF m 28 #[.val (.ref a1), .val (.ref a2), .val (.int (Int32.ofNat i)), .val (.int (1 : Int32))] [(.int (g 0)), (.int (f (i + 0)))])) _
          exact k)
      by_cases k90 : (f (i + 0)) = (g 0)
      · skip
        have q91 : ∀ t, Steps p.tables e below (s₁.setTop (mkF m 92 #[.val (.ref a1), .val (.ref a2), .val (.int (Int32.ofNat i)), .val (.int (1 : Int32))] [(.int (1 : Int32))])) t → Steps p.tables e below (s₁.setTop (entryFrame m #[(.ref a1), (.ref a2), (.int (Int32.ofNat i))] 4)) t := fun t k => q89 t (by
            show Steps p.tables e below (s₁.setTop (mkF m 28 #[.val (.ref a1), .val (.ref a2), .val (.int (Int32.ofNat i)), .val (.int (1 : Int32))] [(.int (g 0)), (.int (f (i + 0)))])) _
            refine XS.icmpNo X0.here hx rfl (hb hby d5_28) rfl (XT.ii_ne_f (k90 : (f (i + 0)) = (g 0))) ?_
            show Steps p.tables e below (s₁.setTop (mkF m 31 #[.val (.ref a1), .val (.ref a2), .val (.int (Int32.ofNat i)), .val (.int (1 : Int32))] [])) _
            refine XS.iconst X0.here hx rfl (hb hby d5_31) ?_
            show Steps p.tables e below (s₁.setTop (mkF m 32 #[.val (.ref a1), .val (.ref a2), .val (.int (Int32.ofNat i)), .val (.int (1 : Int32))] [(.int (1 : Int32))])) _
            refine XS.goto X0.here hx rfl (pc0 := 32) (pc' := 36) rfl (hb hby d5_32) (by decide) (by decide) ?_
            show Steps p.tables e below (s₁.setTop (mkF m 36 #[.val (.ref a1), .val (.ref a2), .val (.int (Int32.ofNat i)), .val (.int (1 : Int32))] [(.int (1 : Int32))])) _
            refine XS.istoreN X0.here hx rfl (hb hby d5_36) rfl (l' := #[.val (.ref a1), .val (.ref a2), .val (.int (Int32.ofNat i)), .val (.int (1 : Int32))]) rfl ?_
            show Steps p.tables e below (s₁.setTop (mkF m 37 #[.val (.ref a1), .val (.ref a2), .val (.int (Int32.ofNat i)), .val (.int (1 : Int32))] [])) _
            refine XS.aloadN X0.here hx rfl (hb hby d5_37) rfl rfl ?_
            show Steps p.tables e below (s₁.setTop (mkF m 38 #[.val (.ref a1), .val (.ref a2), .val (.int (Int32.ofNat i)), .val (.int (1 : Int32))] [(.ref a2)])) _
            refine X0.arraylength hx (cell := cl2) (by rw [e0]; exact Ar2.1) (State.isArrayOf_alike hZ.alike Ar2.2.1) (g := (mkF m 38 #[.val (.ref a1), .val (.ref a2), .val (.int (Int32.ofNat i)), .val (.int (1 : Int32))] [(.ref a2)])) rfl (rest := []) rfl (hb hby d5_38) _ ?_
            rw [len_of S2' M2']
            show Steps p.tables e below (s₁.setTop (mkF m 39 #[.val (.ref a1), .val (.ref a2), .val (.int (Int32.ofNat i)), .val (.int (1 : Int32))] [(.int (Int32.ofNat 1))])) _
            refine XS.iconst X0.here hx rfl (hb hby d5_39) ?_
            show Steps p.tables e below (s₁.setTop (mkF m 40 #[.val (.ref a1), .val (.ref a2), .val (.int (Int32.ofNat i)), .val (.int (1 : Int32))] [(.int (1 : Int32)), (.int (Int32.ofNat 1))])) _
            refine XS.icmpYes X0.here hx rfl (pc0 := 40) (pc' := 64) rfl (hb hby d5_40) rfl (XT.ii_le_t (by decide : ¬ ((1 : Int32) < (Int32.ofNat 1)))) (by decide) (by decide) ?_
            show Steps p.tables e below (s₁.setTop (mkF m 64 #[.val (.ref a1), .val (.ref a2), .val (.int (Int32.ofNat i)), .val (.int (1 : Int32))] [])) _
            refine XS.aloadN X0.here hx rfl (hb hby d5_64) rfl rfl ?_
            show Steps p.tables e below (s₁.setTop (mkF m 65 #[.val (.ref a1), .val (.ref a2), .val (.int (Int32.ofNat i)), .val (.int (1 : Int32))] [(.ref a2)])) _
            refine X0.arraylength hx (cell := cl2) (by rw [e0]; exact Ar2.1) (State.isArrayOf_alike hZ.alike Ar2.2.1) (g := (mkF m 65 #[.val (.ref a1), .val (.ref a2), .val (.int (Int32.ofNat i)), .val (.int (1 : Int32))] [(.ref a2)])) rfl (rest := []) rfl (hb hby d5_65) _ ?_
            rw [len_of S2' M2']
            show Steps p.tables e below (s₁.setTop (mkF m 66 #[.val (.ref a1), .val (.ref a2), .val (.int (Int32.ofNat i)), .val (.int (1 : Int32))] [(.int (Int32.ofNat 1))])) _
            refine XS.iconst X0.here hx rfl (hb hby d5_66) ?_
            show Steps p.tables e below (s₁.setTop (mkF m 67 #[.val (.ref a1), .val (.ref a2), .val (.int (Int32.ofNat i)), .val (.int (1 : Int32))] [(.int (2 : Int32)), (.int (Int32.ofNat 1))])) _
            refine XS.icmpYes X0.here hx rfl (pc0 := 67) (pc' := 91) rfl (hb hby d5_67) rfl (XT.ii_le_t (by decide : ¬ ((2 : Int32) < (Int32.ofNat 1)))) (by decide) (by decide) ?_
            show Steps p.tables e below (s₁.setTop (mkF m 91 #[.val (.ref a1), .val (.ref a2), .val (.int (Int32.ofNat i)), .val (.int (1 : Int32))] [])) _
            refine XS.iloadN X0.here hx rfl (hb hby d5_91) rfl ?_
            show Steps p.tables e below (s₁.setTop (mkF m 92 #[.val (.ref a1), .val (.ref a2), .val (.int (Int32.ofNat i)), .val (.int (1 : Int32))] [(.int (1 : Int32))])) _
            exact k)
        obtain ⟨fs, hr, hrun, hended, hW, hsame⟩ := X0.leave (v := some (.int (1 : Int32))) (fun h => by rw [Bd.returns] at h; cases h)
        refine ⟨_, _, q91 _ ?_, hrun, hended, _, _, rfl, ?_, ⟨_, rfl⟩, hW, hsame.mono (by decide) (by decide)⟩
        · show Steps p.tables e below (s₁.setTop (mkF m 92 #[.val (.ref a1), .val (.ref a2), .val (.int (Int32.ofNat i)), .val (.int (1 : Int32))] [(.int (1 : Int32))])) _
          exact retN X0 hx (t := .boolean) Bd.returns (by simp) (hb hby d5_92) hr
        · show QN (own_mt f g n 1 i) h0 n0 _ s₁.heap _
          exact ⟨by unfold own_mt own_eqv; rw [if_neg (by omega), own_mis1, if_pos k90] <;> rfl, N0, e0⟩
      · skip
        have q92 : ∀ t, Steps p.tables e below (s₁.setTop (mkF m 92 #[.val (.ref a1), .val (.ref a2), .val (.int (Int32.ofNat i)), .val (.int (0 : Int32))] [(.int (0 : Int32))])) t → Steps p.tables e below (s₁.setTop (entryFrame m #[(.ref a1), (.ref a2), (.int (Int32.ofNat i))] 4)) t := fun t k => q89 t (by
            show Steps p.tables e below (s₁.setTop (mkF m 28 #[.val (.ref a1), .val (.ref a2), .val (.int (Int32.ofNat i)), .val (.int (1 : Int32))] [(.int (g 0)), (.int (f (i + 0)))])) _
            refine XS.icmpYes X0.here hx rfl (pc0 := 28) (pc' := 35) rfl (hb hby d5_28) rfl (XT.ii_ne_t (k90 : ¬ ((f (i + 0)) = (g 0)))) (by decide) (by decide) ?_
            show Steps p.tables e below (s₁.setTop (mkF m 35 #[.val (.ref a1), .val (.ref a2), .val (.int (Int32.ofNat i)), .val (.int (1 : Int32))] [])) _
            refine XS.iconst X0.here hx rfl (hb hby d5_35) ?_
            show Steps p.tables e below (s₁.setTop (mkF m 36 #[.val (.ref a1), .val (.ref a2), .val (.int (Int32.ofNat i)), .val (.int (1 : Int32))] [(.int (0 : Int32))])) _
            refine XS.istoreN X0.here hx rfl (hb hby d5_36) rfl (l' := #[.val (.ref a1), .val (.ref a2), .val (.int (Int32.ofNat i)), .val (.int (0 : Int32))]) rfl ?_
            show Steps p.tables e below (s₁.setTop (mkF m 37 #[.val (.ref a1), .val (.ref a2), .val (.int (Int32.ofNat i)), .val (.int (0 : Int32))] [])) _
            refine XS.aloadN X0.here hx rfl (hb hby d5_37) rfl rfl ?_
            show Steps p.tables e below (s₁.setTop (mkF m 38 #[.val (.ref a1), .val (.ref a2), .val (.int (Int32.ofNat i)), .val (.int (0 : Int32))] [(.ref a2)])) _
            refine X0.arraylength hx (cell := cl2) (by rw [e0]; exact Ar2.1) (State.isArrayOf_alike hZ.alike Ar2.2.1) (g := (mkF m 38 #[.val (.ref a1), .val (.ref a2), .val (.int (Int32.ofNat i)), .val (.int (0 : Int32))] [(.ref a2)])) rfl (rest := []) rfl (hb hby d5_38) _ ?_
            rw [len_of S2' M2']
            show Steps p.tables e below (s₁.setTop (mkF m 39 #[.val (.ref a1), .val (.ref a2), .val (.int (Int32.ofNat i)), .val (.int (0 : Int32))] [(.int (Int32.ofNat 1))])) _
            refine XS.iconst X0.here hx rfl (hb hby d5_39) ?_
            show Steps p.tables e below (s₁.setTop (mkF m 40 #[.val (.ref a1), .val (.ref a2), .val (.int (Int32.ofNat i)), .val (.int (0 : Int32))] [(.int (1 : Int32)), (.int (Int32.ofNat 1))])) _
            refine XS.icmpYes X0.here hx rfl (pc0 := 40) (pc' := 64) rfl (hb hby d5_40) rfl (XT.ii_le_t (by decide : ¬ ((1 : Int32) < (Int32.ofNat 1)))) (by decide) (by decide) ?_
            show Steps p.tables e below (s₁.setTop (mkF m 64 #[.val (.ref a1), .val (.ref a2), .val (.int (Int32.ofNat i)), .val (.int (0 : Int32))] [])) _
            refine XS.aloadN X0.here hx rfl (hb hby d5_64) rfl rfl ?_
            show Steps p.tables e below (s₁.setTop (mkF m 65 #[.val (.ref a1), .val (.ref a2), .val (.int (Int32.ofNat i)), .val (.int (0 : Int32))] [(.ref a2)])) _
            refine X0.arraylength hx (cell := cl2) (by rw [e0]; exact Ar2.1) (State.isArrayOf_alike hZ.alike Ar2.2.1) (g := (mkF m 65 #[.val (.ref a1), .val (.ref a2), .val (.int (Int32.ofNat i)), .val (.int (0 : Int32))] [(.ref a2)])) rfl (rest := []) rfl (hb hby d5_65) _ ?_
            rw [len_of S2' M2']
            show Steps p.tables e below (s₁.setTop (mkF m 66 #[.val (.ref a1), .val (.ref a2), .val (.int (Int32.ofNat i)), .val (.int (0 : Int32))] [(.int (Int32.ofNat 1))])) _
            refine XS.iconst X0.here hx rfl (hb hby d5_66) ?_
            show Steps p.tables e below (s₁.setTop (mkF m 67 #[.val (.ref a1), .val (.ref a2), .val (.int (Int32.ofNat i)), .val (.int (0 : Int32))] [(.int (2 : Int32)), (.int (Int32.ofNat 1))])) _
            refine XS.icmpYes X0.here hx rfl (pc0 := 67) (pc' := 91) rfl (hb hby d5_67) rfl (XT.ii_le_t (by decide : ¬ ((2 : Int32) < (Int32.ofNat 1)))) (by decide) (by decide) ?_
            show Steps p.tables e below (s₁.setTop (mkF m 91 #[.val (.ref a1), .val (.ref a2), .val (.int (Int32.ofNat i)), .val (.int (0 : Int32))] [])) _
            refine XS.iloadN X0.here hx rfl (hb hby d5_91) rfl ?_
            show Steps p.tables e below (s₁.setTop (mkF m 92 #[.val (.ref a1), .val (.ref a2), .val (.int (Int32.ofNat i)), .val (.int (0 : Int32))] [(.int (0 : Int32))])) _
            exact k)
        obtain ⟨fs, hr, hrun, hended, hW, hsame⟩ := X0.leave (v := some (.int (0 : Int32))) (fun h => by rw [Bd.returns] at h; cases h)
        refine ⟨_, _, q92 _ ?_, hrun, hended, _, _, rfl, ?_, ⟨_, rfl⟩, hW, hsame.mono (by decide) (by decide)⟩
        · show Steps p.tables e below (s₁.setTop (mkF m 92 #[.val (.ref a1), .val (.ref a2), .val (.int (Int32.ofNat i)), .val (.int (0 : Int32))] [(.int (0 : Int32))])) _
          exact retN X0 hx (t := .boolean) Bd.returns (by simp) (hb hby d5_92) hr
        · show QN (own_mt f g n 1 i) h0 n0 _ s₁.heap _
          exact ⟨by unfold own_mt own_eqv; rw [if_neg (by omega), own_mis1, if_neg k90] <;> rfl, N0, e0⟩
  · skip
    have S2' : cl2.slots.size = (Int32.ofNat 2).toNatClampNeg := by rw [own_n32 (by omega)]; exact S2
    have M2' : ¬ Int32.ofNat 2 < 0 := own_neg (by omega)
    have q93 : ∀ t, Steps p.tables e below (s₁.setTop (mkF m 5 #[.val (.ref a1), .val (.ref a2), .val (.int (Int32.ofNat i)), .unset] [(.ref a1), (.int ((Int32.ofNat i) + (Int32.ofNat 2)))])) t → Steps p.tables e below (s₁.setTop (entryFrame m #[(.ref a1), (.ref a2), (.int (Int32.ofNat i))] 4)) t := fun t k => pre0 t (by
        show Steps p.tables e below (s₁.setTop (mkF m 0 #[.val (.ref a1), .val (.ref a2), .val (.int (Int32.ofNat i)), .unset] [])) _
        refine XS.iloadN X0.here hx rfl (hb hby d5_0) rfl ?_
        show Steps p.tables e below (s₁.setTop (mkF m 1 #[.val (.ref a1), .val (.ref a2), .val (.int (Int32.ofNat i)), .unset] [(.int (Int32.ofNat i))])) _
        refine XS.aloadN X0.here hx rfl (hb hby d5_1) rfl rfl ?_
        show Steps p.tables e below (s₁.setTop (mkF m 2 #[.val (.ref a1), .val (.ref a2), .val (.int (Int32.ofNat i)), .unset] [(.ref a2), (.int (Int32.ofNat i))])) _
        refine X0.arraylength hx (cell := cl2) (by rw [e0]; exact Ar2.1) (State.isArrayOf_alike hZ.alike Ar2.2.1) (g := (mkF m 2 #[.val (.ref a1), .val (.ref a2), .val (.int (Int32.ofNat i)), .unset] [(.ref a2), (.int (Int32.ofNat i))])) rfl (rest := [(.int (Int32.ofNat i))]) rfl (hb hby d5_2) _ ?_
        rw [len_of S2' M2']
        show Steps p.tables e below (s₁.setTop (mkF m 3 #[.val (.ref a1), .val (.ref a2), .val (.int (Int32.ofNat i)), .unset] [(.int (Int32.ofNat 2)), (.int (Int32.ofNat i))])) _
        refine XS.iadd X0.here hx rfl (hb hby d5_3) rfl ?_
        show Steps p.tables e below (s₁.setTop (mkF m 4 #[.val (.ref a1), .val (.ref a2), .val (.int (Int32.ofNat i)), .unset] [(.int ((Int32.ofNat i) + (Int32.ofNat 2)))])) _
        refine XS.aloadN X0.here hx rfl (hb hby d5_4) rfl rfl ?_
        show Steps p.tables e below (s₁.setTop (mkF m 5 #[.val (.ref a1), .val (.ref a2), .val (.int (Int32.ofNat i)), .unset] [(.ref a1), (.int ((Int32.ofNat i) + (Int32.ofNat 2)))])) _
        exact k)
    have q94 : ∀ t, Steps p.tables e below (s₁.setTop (mkF m 5 #[.val (.ref a1), .val (.ref a2), .val (.int (Int32.ofNat i)), .unset] [(.ref a1), (.int (Int32.ofNat (i + 2)))])) t → Steps p.tables e below (s₁.setTop (entryFrame m #[(.ref a1), (.ref a2), (.int (Int32.ofNat i))] 4)) t := fun t k => q93 t (by rw [show ((Int32.ofNat i) + (Int32.ofNat 2)) = (Int32.ofNat (i + 2)) from (own_add i 2).symm]; exact k)
    have q95 : ∀ t, Steps p.tables e below (s₁.setTop (mkF m 6 #[.val (.ref a1), .val (.ref a2), .val (.int (Int32.ofNat i)), .unset] [(.int (Int32.ofNat n)), (.int (Int32.ofNat (i + 2)))])) t → Steps p.tables e below (s₁.setTop (entryFrame m #[(.ref a1), (.ref a2), (.int (Int32.ofNat i))] 4)) t := fun t k => q94 t (by
        show Steps p.tables e below (s₁.setTop (mkF m 5 #[.val (.ref a1), .val (.ref a2), .val (.int (Int32.ofNat i)), .unset] [(.ref a1), (.int (Int32.ofNat (i + 2)))])) _
        refine X0.arraylength hx (cell := cl1) (by rw [e0]; exact Ar1.1) (State.isArrayOf_alike hZ.alike Ar1.2.1) (g := (mkF m 5 #[.val (.ref a1), .val (.ref a2), .val (.int (Int32.ofNat i)), .unset] [(.ref a1), (.int (Int32.ofNat (i + 2)))])) rfl (rest := [(.int (Int32.ofNat (i + 2)))]) rfl (hb hby d5_5) _ ?_
        rw [len_of S1' M1']
        show Steps p.tables e below (s₁.setTop (mkF m 6 #[.val (.ref a1), .val (.ref a2), .val (.int (Int32.ofNat i)), .unset] [(.int (Int32.ofNat n)), (.int (Int32.ofNat (i + 2)))])) _
        exact k)
    by_cases kf : (Int32.ofNat n) < (Int32.ofNat (i + 2))
    · skip
      have q96 : ∀ t, Steps p.tables e below (s₁.setTop (mkF m 10 #[.val (.ref a1), .val (.ref a2), .val (.int (Int32.ofNat i)), .unset] [(.int (0 : Int32))])) t → Steps p.tables e below (s₁.setTop (entryFrame m #[(.ref a1), (.ref a2), (.int (Int32.ofNat i))] 4)) t := fun t k => q95 t (by
          show Steps p.tables e below (s₁.setTop (mkF m 6 #[.val (.ref a1), .val (.ref a2), .val (.int (Int32.ofNat i)), .unset] [(.int (Int32.ofNat n)), (.int (Int32.ofNat (i + 2)))])) _
          refine XS.icmpNo X0.here hx rfl (hb hby d5_6) rfl (XT.ii_le_f (kf : (Int32.ofNat n) < (Int32.ofNat (i + 2)))) ?_
          show Steps p.tables e below (s₁.setTop (mkF m 9 #[.val (.ref a1), .val (.ref a2), .val (.int (Int32.ofNat i)), .unset] [])) _
          refine XS.iconst X0.here hx rfl (hb hby d5_9) ?_
          show Steps p.tables e below (s₁.setTop (mkF m 10 #[.val (.ref a1), .val (.ref a2), .val (.int (Int32.ofNat i)), .unset] [(.int (0 : Int32))])) _
          exact k)
      obtain ⟨fs, hr, hrun, hended, hW, hsame⟩ := X0.leave (v := some (.int (0 : Int32))) (fun h => by rw [Bd.returns] at h; cases h)
      refine ⟨_, _, q96 _ ?_, hrun, hended, _, _, rfl, ?_, ⟨_, rfl⟩, hW, hsame.mono (by decide) (by decide)⟩
      · show Steps p.tables e below (s₁.setTop (mkF m 10 #[.val (.ref a1), .val (.ref a2), .val (.int (Int32.ofNat i)), .unset] [(.int (0 : Int32))])) _
        exact retN X0 hx (t := .boolean) Bd.returns (by simp) (hb hby d5_10) hr
      · show QN (own_mt f g n 2 i) h0 n0 _ s₁.heap _
        exact ⟨by unfold own_mt; rw [if_pos ((own_ltn (by omega) (by omega)).mp kf)], N0, e0⟩
    · skip
      have hi : i + 2 ≤ n := Nat.le_of_not_lt fun y => kf ((own_ltn (by omega) (by omega)).mpr y)
      have q97 : ∀ t, Steps p.tables e below (s₁.setTop (mkF m 28 #[.val (.ref a1), .val (.ref a2), .val (.int (Int32.ofNat i)), .val (.int (1 : Int32))] [(.int (g 0)), (.int (f (i + 0)))])) t → Steps p.tables e below (s₁.setTop (entryFrame m #[(.ref a1), (.ref a2), (.int (Int32.ofNat i))] 4)) t := fun t k => q95 t (by
          show Steps p.tables e below (s₁.setTop (mkF m 6 #[.val (.ref a1), .val (.ref a2), .val (.int (Int32.ofNat i)), .unset] [(.int (Int32.ofNat n)), (.int (Int32.ofNat (i + 2)))])) _
          refine XS.icmpYes X0.here hx rfl (pc0 := 6) (pc' := 11) rfl (hb hby d5_6) rfl (XT.ii_le_t (kf : ¬ ((Int32.ofNat n) < (Int32.ofNat (i + 2))))) (by decide) (by decide) ?_
          show Steps p.tables e below (s₁.setTop (mkF m 11 #[.val (.ref a1), .val (.ref a2), .val (.int (Int32.ofNat i)), .unset] [])) _
          refine XS.iconst X0.here hx rfl (hb hby d5_11) ?_
          show Steps p.tables e below (s₁.setTop (mkF m 12 #[.val (.ref a1), .val (.ref a2), .val (.int (Int32.ofNat i)), .unset] [(.int (1 : Int32))])) _
          refine XS.istoreN X0.here hx rfl (hb hby d5_12) rfl (l' := #[.val (.ref a1), .val (.ref a2), .val (.int (Int32.ofNat i)), .val (.int (1 : Int32))]) rfl ?_
          show Steps p.tables e below (s₁.setTop (mkF m 13 #[.val (.ref a1), .val (.ref a2), .val (.int (Int32.ofNat i)), .val (.int (1 : Int32))] [])) _
          refine XS.aloadN X0.here hx rfl (hb hby d5_13) rfl rfl ?_
          show Steps p.tables e below (s₁.setTop (mkF m 14 #[.val (.ref a1), .val (.ref a2), .val (.int (Int32.ofNat i)), .val (.int (1 : Int32))] [(.ref a2)])) _
          refine X0.arraylength hx (cell := cl2) (by rw [e0]; exact Ar2.1) (State.isArrayOf_alike hZ.alike Ar2.2.1) (g := (mkF m 14 #[.val (.ref a1), .val (.ref a2), .val (.int (Int32.ofNat i)), .val (.int (1 : Int32))] [(.ref a2)])) rfl (rest := []) rfl (hb hby d5_14) _ ?_
          rw [len_of S2' M2']
          show Steps p.tables e below (s₁.setTop (mkF m 15 #[.val (.ref a1), .val (.ref a2), .val (.int (Int32.ofNat i)), .val (.int (1 : Int32))] [(.int (Int32.ofNat 2))])) _
          refine XS.ifNo X0.here hx rfl (hb hby d5_15) rfl (XT.i0_le_f (by decide : (0 : Int32) < (Int32.ofNat 2))) ?_
          show Steps p.tables e below (s₁.setTop (mkF m 18 #[.val (.ref a1), .val (.ref a2), .val (.int (Int32.ofNat i)), .val (.int (1 : Int32))] [])) _
          refine XS.iloadN X0.here hx rfl (hb hby d5_18) rfl ?_
          show Steps p.tables e below (s₁.setTop (mkF m 19 #[.val (.ref a1), .val (.ref a2), .val (.int (Int32.ofNat i)), .val (.int (1 : Int32))] [(.int (1 : Int32))])) _
          refine XS.ifNo X0.here hx rfl (hb hby d5_19) rfl (XT.i0_eq_f (by decide : ¬ ((1 : Int32) = (0 : Int32)))) ?_
          show Steps p.tables e below (s₁.setTop (mkF m 22 #[.val (.ref a1), .val (.ref a2), .val (.int (Int32.ofNat i)), .val (.int (1 : Int32))] [])) _
          refine XS.aloadN X0.here hx rfl (hb hby d5_22) rfl rfl ?_
          show Steps p.tables e below (s₁.setTop (mkF m 23 #[.val (.ref a1), .val (.ref a2), .val (.int (Int32.ofNat i)), .val (.int (1 : Int32))] [(.ref a1)])) _
          refine XS.iloadN X0.here hx rfl (hb hby d5_23) rfl ?_
          show Steps p.tables e below (s₁.setTop (mkF m 24 #[.val (.ref a1), .val (.ref a2), .val (.int (Int32.ofNat i)), .val (.int (1 : Int32))] [(.int (Int32.ofNat i)), (.ref a1)])) _
          refine X0.baloadBytes hx (j := (Int32.ofNat i)) (v := (.int (f (i + 0)))) (by rw [e0]; exact Ar1.1) (State.isArrayOf_alike hZ.alike Ar1.2.1) Ar1.2.2 (own_in S1 (by omega) (by omega)) (own_hat S1 H1 (by omega) (by omega)) (g := (mkF m 24 #[.val (.ref a1), .val (.ref a2), .val (.int (Int32.ofNat i)), .val (.int (1 : Int32))] [(.int (Int32.ofNat i)), (.ref a1)])) rfl rfl (hb hby d5_24) _ ?_
          show Steps p.tables e below (s₁.setTop (mkF m 25 #[.val (.ref a1), .val (.ref a2), .val (.int (Int32.ofNat i)), .val (.int (1 : Int32))] [(.int (f (i + 0)))])) _
          refine XS.aloadN X0.here hx rfl (hb hby d5_25) rfl rfl ?_
          show Steps p.tables e below (s₁.setTop (mkF m 26 #[.val (.ref a1), .val (.ref a2), .val (.int (Int32.ofNat i)), .val (.int (1 : Int32))] [(.ref a2), (.int (f (i + 0)))])) _
          refine XS.iconst X0.here hx rfl (hb hby d5_26) ?_
          show Steps p.tables e below (s₁.setTop (mkF m 27 #[.val (.ref a1), .val (.ref a2), .val (.int (Int32.ofNat i)), .val (.int (1 : Int32))] [(.int (0 : Int32)), (.ref a2), (.int (f (i + 0)))])) _
          refine X0.baloadBytes hx (j := (0 : Int32)) (v := (.int (g 0))) (by rw [e0]; exact Ar2.1) (State.isArrayOf_alike hZ.alike Ar2.2.1) Ar2.2.2 (by rw [S2]; decide) (H2 0 (by rw [S2]; decide)) (g := (mkF m 27 #[.val (.ref a1), .val (.ref a2), .val (.int (Int32.ofNat i)), .val (.int (1 : Int32))] [(.int (0 : Int32)), (.ref a2), (.int (f (i + 0)))])) rfl rfl (hb hby d5_27) _ ?_
          show Steps p.tables e below (s₁.setTop (mkF m 28 #[.val (.ref a1), .val (.ref a2), .val (.int (Int32.ofNat i)), .val (.int (1 : Int32))] [(.int (g 0)), (.int (f (i + 0)))])) _
          exact k)
      by_cases k98 : (f (i + 0)) = (g 0)
      · skip
        have q99 : ∀ t, Steps p.tables e below (s₁.setTop (mkF m 51 #[.val (.ref a1), .val (.ref a2), .val (.int (Int32.ofNat i)), .val (.int (1 : Int32))] [(.int ((Int32.ofNat i) + (1 : Int32))), (.ref a1)])) t → Steps p.tables e below (s₁.setTop (entryFrame m #[(.ref a1), (.ref a2), (.int (Int32.ofNat i))] 4)) t := fun t k => q97 t (by
            show Steps p.tables e below (s₁.setTop (mkF m 28 #[.val (.ref a1), .val (.ref a2), .val (.int (Int32.ofNat i)), .val (.int (1 : Int32))] [(.int (g 0)), (.int (f (i + 0)))])) _
            refine XS.icmpNo X0.here hx rfl (hb hby d5_28) rfl (XT.ii_ne_f (k98 : (f (i + 0)) = (g 0))) ?_
            show Steps p.tables e below (s₁.setTop (mkF m 31 #[.val (.ref a1), .val (.ref a2), .val (.int (Int32.ofNat i)), .val (.int (1 : Int32))] [])) _
            refine XS.iconst X0.here hx rfl (hb hby d5_31) ?_
            show Steps p.tables e below (s₁.setTop (mkF m 32 #[.val (.ref a1), .val (.ref a2), .val (.int (Int32.ofNat i)), .val (.int (1 : Int32))] [(.int (1 : Int32))])) _
            refine XS.goto X0.here hx rfl (pc0 := 32) (pc' := 36) rfl (hb hby d5_32) (by decide) (by decide) ?_
            show Steps p.tables e below (s₁.setTop (mkF m 36 #[.val (.ref a1), .val (.ref a2), .val (.int (Int32.ofNat i)), .val (.int (1 : Int32))] [(.int (1 : Int32))])) _
            refine XS.istoreN X0.here hx rfl (hb hby d5_36) rfl (l' := #[.val (.ref a1), .val (.ref a2), .val (.int (Int32.ofNat i)), .val (.int (1 : Int32))]) rfl ?_
            show Steps p.tables e below (s₁.setTop (mkF m 37 #[.val (.ref a1), .val (.ref a2), .val (.int (Int32.ofNat i)), .val (.int (1 : Int32))] [])) _
            refine XS.aloadN X0.here hx rfl (hb hby d5_37) rfl rfl ?_
            show Steps p.tables e below (s₁.setTop (mkF m 38 #[.val (.ref a1), .val (.ref a2), .val (.int (Int32.ofNat i)), .val (.int (1 : Int32))] [(.ref a2)])) _
            refine X0.arraylength hx (cell := cl2) (by rw [e0]; exact Ar2.1) (State.isArrayOf_alike hZ.alike Ar2.2.1) (g := (mkF m 38 #[.val (.ref a1), .val (.ref a2), .val (.int (Int32.ofNat i)), .val (.int (1 : Int32))] [(.ref a2)])) rfl (rest := []) rfl (hb hby d5_38) _ ?_
            rw [len_of S2' M2']
            show Steps p.tables e below (s₁.setTop (mkF m 39 #[.val (.ref a1), .val (.ref a2), .val (.int (Int32.ofNat i)), .val (.int (1 : Int32))] [(.int (Int32.ofNat 2))])) _
            refine XS.iconst X0.here hx rfl (hb hby d5_39) ?_
            show Steps p.tables e below (s₁.setTop (mkF m 40 #[.val (.ref a1), .val (.ref a2), .val (.int (Int32.ofNat i)), .val (.int (1 : Int32))] [(.int (1 : Int32)), (.int (Int32.ofNat 2))])) _
            refine XS.icmpNo X0.here hx rfl (hb hby d5_40) rfl (XT.ii_le_f (by decide : (1 : Int32) < (Int32.ofNat 2))) ?_
            show Steps p.tables e below (s₁.setTop (mkF m 43 #[.val (.ref a1), .val (.ref a2), .val (.int (Int32.ofNat i)), .val (.int (1 : Int32))] [])) _
            refine XS.iloadN X0.here hx rfl (hb hby d5_43) rfl ?_
            show Steps p.tables e below (s₁.setTop (mkF m 44 #[.val (.ref a1), .val (.ref a2), .val (.int (Int32.ofNat i)), .val (.int (1 : Int32))] [(.int (1 : Int32))])) _
            refine XS.ifNo X0.here hx rfl (hb hby d5_44) rfl (XT.i0_eq_f (by decide : ¬ ((1 : Int32) = (0 : Int32)))) ?_
            show Steps p.tables e below (s₁.setTop (mkF m 47 #[.val (.ref a1), .val (.ref a2), .val (.int (Int32.ofNat i)), .val (.int (1 : Int32))] [])) _
            refine XS.aloadN X0.here hx rfl (hb hby d5_47) rfl rfl ?_
            show Steps p.tables e below (s₁.setTop (mkF m 48 #[.val (.ref a1), .val (.ref a2), .val (.int (Int32.ofNat i)), .val (.int (1 : Int32))] [(.ref a1)])) _
            refine XS.iloadN X0.here hx rfl (hb hby d5_48) rfl ?_
            show Steps p.tables e below (s₁.setTop (mkF m 49 #[.val (.ref a1), .val (.ref a2), .val (.int (Int32.ofNat i)), .val (.int (1 : Int32))] [(.int (Int32.ofNat i)), (.ref a1)])) _
            refine XS.iconst X0.here hx rfl (hb hby d5_49) ?_
            show Steps p.tables e below (s₁.setTop (mkF m 50 #[.val (.ref a1), .val (.ref a2), .val (.int (Int32.ofNat i)), .val (.int (1 : Int32))] [(.int (1 : Int32)), (.int (Int32.ofNat i)), (.ref a1)])) _
            refine XS.iadd X0.here hx rfl (hb hby d5_50) rfl ?_
            show Steps p.tables e below (s₁.setTop (mkF m 51 #[.val (.ref a1), .val (.ref a2), .val (.int (Int32.ofNat i)), .val (.int (1 : Int32))] [(.int ((Int32.ofNat i) + (1 : Int32))), (.ref a1)])) _
            exact k)
        have q100 : ∀ t, Steps p.tables e below (s₁.setTop (mkF m 51 #[.val (.ref a1), .val (.ref a2), .val (.int (Int32.ofNat i)), .val (.int (1 : Int32))] [(.int (Int32.ofNat (i + 1))), (.ref a1)])) t → Steps p.tables e below (s₁.setTop (entryFrame m #[(.ref a1), (.ref a2), (.int (Int32.ofNat i))] 4)) t := fun t k => q99 t (by rw [show ((Int32.ofNat i) + (1 : Int32)) = (Int32.ofNat (i + 1)) from (own_one i).symm]; exact k)
        have q101 : ∀ t, Steps p.tables e below (s₁.setTop (mkF m 55 #[.val (.ref a1), .val (.ref a2), .val (.int (Int32.ofNat i)), .val (.int (1 : Int32))] [(.int (g 1)), (.int (f (i + 1)))])) t → Steps p.tables e below (s₁.setTop (entryFrame m #[(.ref a1), (.ref a2), (.int (Int32.ofNat i))] 4)) t := fun t k => q100 t (by
            show Steps p.tables e below (s₁.setTop (mkF m 51 #[.val (.ref a1), .val (.ref a2), .val (.int (Int32.ofNat i)), .val (.int (1 : Int32))] [(.int (Int32.ofNat (i + 1))), (.ref a1)])) _
            refine X0.baloadBytes hx (j := (Int32.ofNat (i + 1))) (v := (.int (f (i + 1)))) (by rw [e0]; exact Ar1.1) (State.isArrayOf_alike hZ.alike Ar1.2.1) Ar1.2.2 (own_in S1 (by omega) (by omega)) (own_hat S1 H1 (by omega) (by omega)) (g := (mkF m 51 #[.val (.ref a1), .val (.ref a2), .val (.int (Int32.ofNat i)), .val (.int (1 : Int32))] [(.int (Int32.ofNat (i + 1))), (.ref a1)])) rfl rfl (hb hby d5_51) _ ?_
            show Steps p.tables e below (s₁.setTop (mkF m 52 #[.val (.ref a1), .val (.ref a2), .val (.int (Int32.ofNat i)), .val (.int (1 : Int32))] [(.int (f (i + 1)))])) _
            refine XS.aloadN X0.here hx rfl (hb hby d5_52) rfl rfl ?_
            show Steps p.tables e below (s₁.setTop (mkF m 53 #[.val (.ref a1), .val (.ref a2), .val (.int (Int32.ofNat i)), .val (.int (1 : Int32))] [(.ref a2), (.int (f (i + 1)))])) _
            refine XS.iconst X0.here hx rfl (hb hby d5_53) ?_
            show Steps p.tables e below (s₁.setTop (mkF m 54 #[.val (.ref a1), .val (.ref a2), .val (.int (Int32.ofNat i)), .val (.int (1 : Int32))] [(.int (1 : Int32)), (.ref a2), (.int (f (i + 1)))])) _
            refine X0.baloadBytes hx (j := (1 : Int32)) (v := (.int (g 1))) (by rw [e0]; exact Ar2.1) (State.isArrayOf_alike hZ.alike Ar2.2.1) Ar2.2.2 (by rw [S2]; decide) (H2 1 (by rw [S2]; decide)) (g := (mkF m 54 #[.val (.ref a1), .val (.ref a2), .val (.int (Int32.ofNat i)), .val (.int (1 : Int32))] [(.int (1 : Int32)), (.ref a2), (.int (f (i + 1)))])) rfl rfl (hb hby d5_54) _ ?_
            show Steps p.tables e below (s₁.setTop (mkF m 55 #[.val (.ref a1), .val (.ref a2), .val (.int (Int32.ofNat i)), .val (.int (1 : Int32))] [(.int (g 1)), (.int (f (i + 1)))])) _
            exact k)
        by_cases k102 : (f (i + 1)) = (g 1)
        · skip
          have q103 : ∀ t, Steps p.tables e below (s₁.setTop (mkF m 92 #[.val (.ref a1), .val (.ref a2), .val (.int (Int32.ofNat i)), .val (.int (1 : Int32))] [(.int (1 : Int32))])) t → Steps p.tables e below (s₁.setTop (entryFrame m #[(.ref a1), (.ref a2), (.int (Int32.ofNat i))] 4)) t := fun t k => q101 t (by
              show Steps p.tables e below (s₁.setTop (mkF m 55 #[.val (.ref a1), .val (.ref a2), .val (.int (Int32.ofNat i)), .val (.int (1 : Int32))] [(.int (g 1)), (.int (f (i + 1)))])) _
              refine XS.icmpNo X0.here hx rfl (hb hby d5_55) rfl (XT.ii_ne_f (k102 : (f (i + 1)) = (g 1))) ?_
              show Steps p.tables e below (s₁.setTop (mkF m 58 #[.val (.ref a1), .val (.ref a2), .val (.int (Int32.ofNat i)), .val (.int (1 : Int32))] [])) _
              refine XS.iconst X0.here hx rfl (hb hby d5_58) ?_
              show Steps p.tables e below (s₁.setTop (mkF m 59 #[.val (.ref a1), .val (.ref a2), .val (.int (Int32.ofNat i)), .val (.int (1 : Int32))] [(.int (1 : Int32))])) _
              refine XS.goto X0.here hx rfl (pc0 := 59) (pc' := 63) rfl (hb hby d5_59) (by decide) (by decide) ?_
              show Steps p.tables e below (s₁.setTop (mkF m 63 #[.val (.ref a1), .val (.ref a2), .val (.int (Int32.ofNat i)), .val (.int (1 : Int32))] [(.int (1 : Int32))])) _
              refine XS.istoreN X0.here hx rfl (hb hby d5_63) rfl (l' := #[.val (.ref a1), .val (.ref a2), .val (.int (Int32.ofNat i)), .val (.int (1 : Int32))]) rfl ?_
              show Steps p.tables e below (s₁.setTop (mkF m 64 #[.val (.ref a1), .val (.ref a2), .val (.int (Int32.ofNat i)), .val (.int (1 : Int32))] [])) _
              refine XS.aloadN X0.here hx rfl (hb hby d5_64) rfl rfl ?_
              show Steps p.tables e below (s₁.setTop (mkF m 65 #[.val (.ref a1), .val (.ref a2), .val (.int (Int32.ofNat i)), .val (.int (1 : Int32))] [(.ref a2)])) _
              refine X0.arraylength hx (cell := cl2) (by rw [e0]; exact Ar2.1) (State.isArrayOf_alike hZ.alike Ar2.2.1) (g := (mkF m 65 #[.val (.ref a1), .val (.ref a2), .val (.int (Int32.ofNat i)), .val (.int (1 : Int32))] [(.ref a2)])) rfl (rest := []) rfl (hb hby d5_65) _ ?_
              rw [len_of S2' M2']
              show Steps p.tables e below (s₁.setTop (mkF m 66 #[.val (.ref a1), .val (.ref a2), .val (.int (Int32.ofNat i)), .val (.int (1 : Int32))] [(.int (Int32.ofNat 2))])) _
              refine XS.iconst X0.here hx rfl (hb hby d5_66) ?_
              show Steps p.tables e below (s₁.setTop (mkF m 67 #[.val (.ref a1), .val (.ref a2), .val (.int (Int32.ofNat i)), .val (.int (1 : Int32))] [(.int (2 : Int32)), (.int (Int32.ofNat 2))])) _
              refine XS.icmpYes X0.here hx rfl (pc0 := 67) (pc' := 91) rfl (hb hby d5_67) rfl (XT.ii_le_t (by decide : ¬ ((2 : Int32) < (Int32.ofNat 2)))) (by decide) (by decide) ?_
              show Steps p.tables e below (s₁.setTop (mkF m 91 #[.val (.ref a1), .val (.ref a2), .val (.int (Int32.ofNat i)), .val (.int (1 : Int32))] [])) _
              refine XS.iloadN X0.here hx rfl (hb hby d5_91) rfl ?_
              show Steps p.tables e below (s₁.setTop (mkF m 92 #[.val (.ref a1), .val (.ref a2), .val (.int (Int32.ofNat i)), .val (.int (1 : Int32))] [(.int (1 : Int32))])) _
              exact k)
          obtain ⟨fs, hr, hrun, hended, hW, hsame⟩ := X0.leave (v := some (.int (1 : Int32))) (fun h => by rw [Bd.returns] at h; cases h)
          refine ⟨_, _, q103 _ ?_, hrun, hended, _, _, rfl, ?_, ⟨_, rfl⟩, hW, hsame.mono (by decide) (by decide)⟩
          · show Steps p.tables e below (s₁.setTop (mkF m 92 #[.val (.ref a1), .val (.ref a2), .val (.int (Int32.ofNat i)), .val (.int (1 : Int32))] [(.int (1 : Int32))])) _
            exact retN X0 hx (t := .boolean) Bd.returns (by simp) (hb hby d5_92) hr
          · show QN (own_mt f g n 2 i) h0 n0 _ s₁.heap _
            exact ⟨by unfold own_mt own_eqv; rw [if_neg (by omega), own_mis2, if_pos k98, if_pos k102] <;> rfl, N0, e0⟩
        · skip
          have q104 : ∀ t, Steps p.tables e below (s₁.setTop (mkF m 92 #[.val (.ref a1), .val (.ref a2), .val (.int (Int32.ofNat i)), .val (.int (0 : Int32))] [(.int (0 : Int32))])) t → Steps p.tables e below (s₁.setTop (entryFrame m #[(.ref a1), (.ref a2), (.int (Int32.ofNat i))] 4)) t := fun t k => q101 t (by
              show Steps p.tables e below (s₁.setTop (mkF m 55 #[.val (.ref a1), .val (.ref a2), .val (.int (Int32.ofNat i)), .val (.int (1 : Int32))] [(.int (g 1)), (.int (f (i + 1)))])) _
              refine XS.icmpYes X0.here hx rfl (pc0 := 55) (pc' := 62) rfl (hb hby d5_55) rfl (XT.ii_ne_t (k102 : ¬ ((f (i + 1)) = (g 1)))) (by decide) (by decide) ?_
              show Steps p.tables e below (s₁.setTop (mkF m 62 #[.val (.ref a1), .val (.ref a2), .val (.int (Int32.ofNat i)), .val (.int (1 : Int32))] [])) _
              refine XS.iconst X0.here hx rfl (hb hby d5_62) ?_
              show Steps p.tables e below (s₁.setTop (mkF m 63 #[.val (.ref a1), .val (.ref a2), .val (.int (Int32.ofNat i)), .val (.int (1 : Int32))] [(.int (0 : Int32))])) _
              refine XS.istoreN X0.here hx rfl (hb hby d5_63) rfl (l' := #[.val (.ref a1), .val (.ref a2), .val (.int (Int32.ofNat i)), .val (.int (0 : Int32))]) rfl ?_
              show Steps p.tables e below (s₁.setTop (mkF m 64 #[.val (.ref a1), .val (.ref a2), .val (.int (Int32.ofNat i)), .val (.int (0 : Int32))] [])) _
              refine XS.aloadN X0.here hx rfl (hb hby d5_64) rfl rfl ?_
              show Steps p.tables e below (s₁.setTop (mkF m 65 #[.val (.ref a1), .val (.ref a2), .val (.int (Int32.ofNat i)), .val (.int (0 : Int32))] [(.ref a2)])) _
              refine X0.arraylength hx (cell := cl2) (by rw [e0]; exact Ar2.1) (State.isArrayOf_alike hZ.alike Ar2.2.1) (g := (mkF m 65 #[.val (.ref a1), .val (.ref a2), .val (.int (Int32.ofNat i)), .val (.int (0 : Int32))] [(.ref a2)])) rfl (rest := []) rfl (hb hby d5_65) _ ?_
              rw [len_of S2' M2']
              show Steps p.tables e below (s₁.setTop (mkF m 66 #[.val (.ref a1), .val (.ref a2), .val (.int (Int32.ofNat i)), .val (.int (0 : Int32))] [(.int (Int32.ofNat 2))])) _
              refine XS.iconst X0.here hx rfl (hb hby d5_66) ?_
              show Steps p.tables e below (s₁.setTop (mkF m 67 #[.val (.ref a1), .val (.ref a2), .val (.int (Int32.ofNat i)), .val (.int (0 : Int32))] [(.int (2 : Int32)), (.int (Int32.ofNat 2))])) _
              refine XS.icmpYes X0.here hx rfl (pc0 := 67) (pc' := 91) rfl (hb hby d5_67) rfl (XT.ii_le_t (by decide : ¬ ((2 : Int32) < (Int32.ofNat 2)))) (by decide) (by decide) ?_
              show Steps p.tables e below (s₁.setTop (mkF m 91 #[.val (.ref a1), .val (.ref a2), .val (.int (Int32.ofNat i)), .val (.int (0 : Int32))] [])) _
              refine XS.iloadN X0.here hx rfl (hb hby d5_91) rfl ?_
              show Steps p.tables e below (s₁.setTop (mkF m 92 #[.val (.ref a1), .val (.ref a2), .val (.int (Int32.ofNat i)), .val (.int (0 : Int32))] [(.int (0 : Int32))])) _
              exact k)
          obtain ⟨fs, hr, hrun, hended, hW, hsame⟩ := X0.leave (v := some (.int (0 : Int32))) (fun h => by rw [Bd.returns] at h; cases h)
          refine ⟨_, _, q104 _ ?_, hrun, hended, _, _, rfl, ?_, ⟨_, rfl⟩, hW, hsame.mono (by decide) (by decide)⟩
          · show Steps p.tables e below (s₁.setTop (mkF m 92 #[.val (.ref a1), .val (.ref a2), .val (.int (Int32.ofNat i)), .val (.int (0 : Int32))] [(.int (0 : Int32))])) _
            exact retN X0 hx (t := .boolean) Bd.returns (by simp) (hb hby d5_92) hr
          · show QN (own_mt f g n 2 i) h0 n0 _ s₁.heap _
            exact ⟨by unfold own_mt own_eqv; rw [if_neg (by omega), own_mis2, if_pos k98, if_neg k102] <;> rfl, N0, e0⟩
      · skip
        have q105 : ∀ t, Steps p.tables e below (s₁.setTop (mkF m 92 #[.val (.ref a1), .val (.ref a2), .val (.int (Int32.ofNat i)), .val (.int (0 : Int32))] [(.int (0 : Int32))])) t → Steps p.tables e below (s₁.setTop (entryFrame m #[(.ref a1), (.ref a2), (.int (Int32.ofNat i))] 4)) t := fun t k => q97 t (by
            show Steps p.tables e below (s₁.setTop (mkF m 28 #[.val (.ref a1), .val (.ref a2), .val (.int (Int32.ofNat i)), .val (.int (1 : Int32))] [(.int (g 0)), (.int (f (i + 0)))])) _
            refine XS.icmpYes X0.here hx rfl (pc0 := 28) (pc' := 35) rfl (hb hby d5_28) rfl (XT.ii_ne_t (k98 : ¬ ((f (i + 0)) = (g 0)))) (by decide) (by decide) ?_
            show Steps p.tables e below (s₁.setTop (mkF m 35 #[.val (.ref a1), .val (.ref a2), .val (.int (Int32.ofNat i)), .val (.int (1 : Int32))] [])) _
            refine XS.iconst X0.here hx rfl (hb hby d5_35) ?_
            show Steps p.tables e below (s₁.setTop (mkF m 36 #[.val (.ref a1), .val (.ref a2), .val (.int (Int32.ofNat i)), .val (.int (1 : Int32))] [(.int (0 : Int32))])) _
            refine XS.istoreN X0.here hx rfl (hb hby d5_36) rfl (l' := #[.val (.ref a1), .val (.ref a2), .val (.int (Int32.ofNat i)), .val (.int (0 : Int32))]) rfl ?_
            show Steps p.tables e below (s₁.setTop (mkF m 37 #[.val (.ref a1), .val (.ref a2), .val (.int (Int32.ofNat i)), .val (.int (0 : Int32))] [])) _
            refine XS.aloadN X0.here hx rfl (hb hby d5_37) rfl rfl ?_
            show Steps p.tables e below (s₁.setTop (mkF m 38 #[.val (.ref a1), .val (.ref a2), .val (.int (Int32.ofNat i)), .val (.int (0 : Int32))] [(.ref a2)])) _
            refine X0.arraylength hx (cell := cl2) (by rw [e0]; exact Ar2.1) (State.isArrayOf_alike hZ.alike Ar2.2.1) (g := (mkF m 38 #[.val (.ref a1), .val (.ref a2), .val (.int (Int32.ofNat i)), .val (.int (0 : Int32))] [(.ref a2)])) rfl (rest := []) rfl (hb hby d5_38) _ ?_
            rw [len_of S2' M2']
            show Steps p.tables e below (s₁.setTop (mkF m 39 #[.val (.ref a1), .val (.ref a2), .val (.int (Int32.ofNat i)), .val (.int (0 : Int32))] [(.int (Int32.ofNat 2))])) _
            refine XS.iconst X0.here hx rfl (hb hby d5_39) ?_
            show Steps p.tables e below (s₁.setTop (mkF m 40 #[.val (.ref a1), .val (.ref a2), .val (.int (Int32.ofNat i)), .val (.int (0 : Int32))] [(.int (1 : Int32)), (.int (Int32.ofNat 2))])) _
            refine XS.icmpNo X0.here hx rfl (hb hby d5_40) rfl (XT.ii_le_f (by decide : (1 : Int32) < (Int32.ofNat 2))) ?_
            show Steps p.tables e below (s₁.setTop (mkF m 43 #[.val (.ref a1), .val (.ref a2), .val (.int (Int32.ofNat i)), .val (.int (0 : Int32))] [])) _
            refine XS.iloadN X0.here hx rfl (hb hby d5_43) rfl ?_
            show Steps p.tables e below (s₁.setTop (mkF m 44 #[.val (.ref a1), .val (.ref a2), .val (.int (Int32.ofNat i)), .val (.int (0 : Int32))] [(.int (0 : Int32))])) _
            refine XS.ifYes X0.here hx rfl (pc0 := 44) (pc' := 62) rfl (hb hby d5_44) rfl (XT.i0_eq_t (rfl : (0 : Int32) = (0 : Int32))) (by decide) (by decide) ?_
            show Steps p.tables e below (s₁.setTop (mkF m 62 #[.val (.ref a1), .val (.ref a2), .val (.int (Int32.ofNat i)), .val (.int (0 : Int32))] [])) _
            refine XS.iconst X0.here hx rfl (hb hby d5_62) ?_
            show Steps p.tables e below (s₁.setTop (mkF m 63 #[.val (.ref a1), .val (.ref a2), .val (.int (Int32.ofNat i)), .val (.int (0 : Int32))] [(.int (0 : Int32))])) _
            refine XS.istoreN X0.here hx rfl (hb hby d5_63) rfl (l' := #[.val (.ref a1), .val (.ref a2), .val (.int (Int32.ofNat i)), .val (.int (0 : Int32))]) rfl ?_
            show Steps p.tables e below (s₁.setTop (mkF m 64 #[.val (.ref a1), .val (.ref a2), .val (.int (Int32.ofNat i)), .val (.int (0 : Int32))] [])) _
            refine XS.aloadN X0.here hx rfl (hb hby d5_64) rfl rfl ?_
            show Steps p.tables e below (s₁.setTop (mkF m 65 #[.val (.ref a1), .val (.ref a2), .val (.int (Int32.ofNat i)), .val (.int (0 : Int32))] [(.ref a2)])) _
            refine X0.arraylength hx (cell := cl2) (by rw [e0]; exact Ar2.1) (State.isArrayOf_alike hZ.alike Ar2.2.1) (g := (mkF m 65 #[.val (.ref a1), .val (.ref a2), .val (.int (Int32.ofNat i)), .val (.int (0 : Int32))] [(.ref a2)])) rfl (rest := []) rfl (hb hby d5_65) _ ?_
            rw [len_of S2' M2']
            show Steps p.tables e below (s₁.setTop (mkF m 66 #[.val (.ref a1), .val (.ref a2), .val (.int (Int32.ofNat i)), .val (.int (0 : Int32))] [(.int (Int32.ofNat 2))])) _
            refine XS.iconst X0.here hx rfl (hb hby d5_66) ?_
            show Steps p.tables e below (s₁.setTop (mkF m 67 #[.val (.ref a1), .val (.ref a2), .val (.int (Int32.ofNat i)), .val (.int (0 : Int32))] [(.int (2 : Int32)), (.int (Int32.ofNat 2))])) _
            refine XS.icmpYes X0.here hx rfl (pc0 := 67) (pc' := 91) rfl (hb hby d5_67) rfl (XT.ii_le_t (by decide : ¬ ((2 : Int32) < (Int32.ofNat 2)))) (by decide) (by decide) ?_
            show Steps p.tables e below (s₁.setTop (mkF m 91 #[.val (.ref a1), .val (.ref a2), .val (.int (Int32.ofNat i)), .val (.int (0 : Int32))] [])) _
            refine XS.iloadN X0.here hx rfl (hb hby d5_91) rfl ?_
            show Steps p.tables e below (s₁.setTop (mkF m 92 #[.val (.ref a1), .val (.ref a2), .val (.int (Int32.ofNat i)), .val (.int (0 : Int32))] [(.int (0 : Int32))])) _
            exact k)
        obtain ⟨fs, hr, hrun, hended, hW, hsame⟩ := X0.leave (v := some (.int (0 : Int32))) (fun h => by rw [Bd.returns] at h; cases h)
        refine ⟨_, _, q105 _ ?_, hrun, hended, _, _, rfl, ?_, ⟨_, rfl⟩, hW, hsame.mono (by decide) (by decide)⟩
        · show Steps p.tables e below (s₁.setTop (mkF m 92 #[.val (.ref a1), .val (.ref a2), .val (.int (Int32.ofNat i)), .val (.int (0 : Int32))] [(.int (0 : Int32))])) _
          exact retN X0 hx (t := .boolean) Bd.returns (by simp) (hb hby d5_92) hr
        · show QN (own_mt f g n 2 i) h0 n0 _ s₁.heap _
          exact ⟨by unfold own_mt own_eqv; rw [if_neg (by omega), own_mis2, if_neg k98] <;> rfl, N0, e0⟩
  · skip
    have S2' : cl2.slots.size = (Int32.ofNat 3).toNatClampNeg := by rw [own_n32 (by omega)]; exact S2
    have M2' : ¬ Int32.ofNat 3 < 0 := own_neg (by omega)
    have q106 : ∀ t, Steps p.tables e below (s₁.setTop (mkF m 5 #[.val (.ref a1), .val (.ref a2), .val (.int (Int32.ofNat i)), .unset] [(.ref a1), (.int ((Int32.ofNat i) + (Int32.ofNat 3)))])) t → Steps p.tables e below (s₁.setTop (entryFrame m #[(.ref a1), (.ref a2), (.int (Int32.ofNat i))] 4)) t := fun t k => pre0 t (by
        show Steps p.tables e below (s₁.setTop (mkF m 0 #[.val (.ref a1), .val (.ref a2), .val (.int (Int32.ofNat i)), .unset] [])) _
        refine XS.iloadN X0.here hx rfl (hb hby d5_0) rfl ?_
        show Steps p.tables e below (s₁.setTop (mkF m 1 #[.val (.ref a1), .val (.ref a2), .val (.int (Int32.ofNat i)), .unset] [(.int (Int32.ofNat i))])) _
        refine XS.aloadN X0.here hx rfl (hb hby d5_1) rfl rfl ?_
        show Steps p.tables e below (s₁.setTop (mkF m 2 #[.val (.ref a1), .val (.ref a2), .val (.int (Int32.ofNat i)), .unset] [(.ref a2), (.int (Int32.ofNat i))])) _
        refine X0.arraylength hx (cell := cl2) (by rw [e0]; exact Ar2.1) (State.isArrayOf_alike hZ.alike Ar2.2.1) (g := (mkF m 2 #[.val (.ref a1), .val (.ref a2), .val (.int (Int32.ofNat i)), .unset] [(.ref a2), (.int (Int32.ofNat i))])) rfl (rest := [(.int (Int32.ofNat i))]) rfl (hb hby d5_2) _ ?_
        rw [len_of S2' M2']
        show Steps p.tables e below (s₁.setTop (mkF m 3 #[.val (.ref a1), .val (.ref a2), .val (.int (Int32.ofNat i)), .unset] [(.int (Int32.ofNat 3)), (.int (Int32.ofNat i))])) _
        refine XS.iadd X0.here hx rfl (hb hby d5_3) rfl ?_
        show Steps p.tables e below (s₁.setTop (mkF m 4 #[.val (.ref a1), .val (.ref a2), .val (.int (Int32.ofNat i)), .unset] [(.int ((Int32.ofNat i) + (Int32.ofNat 3)))])) _
        refine XS.aloadN X0.here hx rfl (hb hby d5_4) rfl rfl ?_
        show Steps p.tables e below (s₁.setTop (mkF m 5 #[.val (.ref a1), .val (.ref a2), .val (.int (Int32.ofNat i)), .unset] [(.ref a1), (.int ((Int32.ofNat i) + (Int32.ofNat 3)))])) _
        exact k)
    have q107 : ∀ t, Steps p.tables e below (s₁.setTop (mkF m 5 #[.val (.ref a1), .val (.ref a2), .val (.int (Int32.ofNat i)), .unset] [(.ref a1), (.int (Int32.ofNat (i + 3)))])) t → Steps p.tables e below (s₁.setTop (entryFrame m #[(.ref a1), (.ref a2), (.int (Int32.ofNat i))] 4)) t := fun t k => q106 t (by rw [show ((Int32.ofNat i) + (Int32.ofNat 3)) = (Int32.ofNat (i + 3)) from (own_add i 3).symm]; exact k)
    have q108 : ∀ t, Steps p.tables e below (s₁.setTop (mkF m 6 #[.val (.ref a1), .val (.ref a2), .val (.int (Int32.ofNat i)), .unset] [(.int (Int32.ofNat n)), (.int (Int32.ofNat (i + 3)))])) t → Steps p.tables e below (s₁.setTop (entryFrame m #[(.ref a1), (.ref a2), (.int (Int32.ofNat i))] 4)) t := fun t k => q107 t (by
        show Steps p.tables e below (s₁.setTop (mkF m 5 #[.val (.ref a1), .val (.ref a2), .val (.int (Int32.ofNat i)), .unset] [(.ref a1), (.int (Int32.ofNat (i + 3)))])) _
        refine X0.arraylength hx (cell := cl1) (by rw [e0]; exact Ar1.1) (State.isArrayOf_alike hZ.alike Ar1.2.1) (g := (mkF m 5 #[.val (.ref a1), .val (.ref a2), .val (.int (Int32.ofNat i)), .unset] [(.ref a1), (.int (Int32.ofNat (i + 3)))])) rfl (rest := [(.int (Int32.ofNat (i + 3)))]) rfl (hb hby d5_5) _ ?_
        rw [len_of S1' M1']
        show Steps p.tables e below (s₁.setTop (mkF m 6 #[.val (.ref a1), .val (.ref a2), .val (.int (Int32.ofNat i)), .unset] [(.int (Int32.ofNat n)), (.int (Int32.ofNat (i + 3)))])) _
        exact k)
    by_cases kf : (Int32.ofNat n) < (Int32.ofNat (i + 3))
    · skip
      have q109 : ∀ t, Steps p.tables e below (s₁.setTop (mkF m 10 #[.val (.ref a1), .val (.ref a2), .val (.int (Int32.ofNat i)), .unset] [(.int (0 : Int32))])) t → Steps p.tables e below (s₁.setTop (entryFrame m #[(.ref a1), (.ref a2), (.int (Int32.ofNat i))] 4)) t := fun t k => q108 t (by
          show Steps p.tables e below (s₁.setTop (mkF m 6 #[.val (.ref a1), .val (.ref a2), .val (.int (Int32.ofNat i)), .unset] [(.int (Int32.ofNat n)), (.int (Int32.ofNat (i + 3)))])) _
          refine XS.icmpNo X0.here hx rfl (hb hby d5_6) rfl (XT.ii_le_f (kf : (Int32.ofNat n) < (Int32.ofNat (i + 3)))) ?_
          show Steps p.tables e below (s₁.setTop (mkF m 9 #[.val (.ref a1), .val (.ref a2), .val (.int (Int32.ofNat i)), .unset] [])) _
          refine XS.iconst X0.here hx rfl (hb hby d5_9) ?_
          show Steps p.tables e below (s₁.setTop (mkF m 10 #[.val (.ref a1), .val (.ref a2), .val (.int (Int32.ofNat i)), .unset] [(.int (0 : Int32))])) _
          exact k)
      obtain ⟨fs, hr, hrun, hended, hW, hsame⟩ := X0.leave (v := some (.int (0 : Int32))) (fun h => by rw [Bd.returns] at h; cases h)
      refine ⟨_, _, q109 _ ?_, hrun, hended, _, _, rfl, ?_, ⟨_, rfl⟩, hW, hsame.mono (by decide) (by decide)⟩
      · show Steps p.tables e below (s₁.setTop (mkF m 10 #[.val (.ref a1), .val (.ref a2), .val (.int (Int32.ofNat i)), .unset] [(.int (0 : Int32))])) _
        exact retN X0 hx (t := .boolean) Bd.returns (by simp) (hb hby d5_10) hr
      · show QN (own_mt f g n 3 i) h0 n0 _ s₁.heap _
        exact ⟨by unfold own_mt; rw [if_pos ((own_ltn (by omega) (by omega)).mp kf)], N0, e0⟩
    · skip
      have hi : i + 3 ≤ n := Nat.le_of_not_lt fun y => kf ((own_ltn (by omega) (by omega)).mpr y)
      have q110 : ∀ t, Steps p.tables e below (s₁.setTop (mkF m 28 #[.val (.ref a1), .val (.ref a2), .val (.int (Int32.ofNat i)), .val (.int (1 : Int32))] [(.int (g 0)), (.int (f (i + 0)))])) t → Steps p.tables e below (s₁.setTop (entryFrame m #[(.ref a1), (.ref a2), (.int (Int32.ofNat i))] 4)) t := fun t k => q108 t (by
          show Steps p.tables e below (s₁.setTop (mkF m 6 #[.val (.ref a1), .val (.ref a2), .val (.int (Int32.ofNat i)), .unset] [(.int (Int32.ofNat n)), (.int (Int32.ofNat (i + 3)))])) _
          refine XS.icmpYes X0.here hx rfl (pc0 := 6) (pc' := 11) rfl (hb hby d5_6) rfl (XT.ii_le_t (kf : ¬ ((Int32.ofNat n) < (Int32.ofNat (i + 3))))) (by decide) (by decide) ?_
          show Steps p.tables e below (s₁.setTop (mkF m 11 #[.val (.ref a1), .val (.ref a2), .val (.int (Int32.ofNat i)), .unset] [])) _
          refine XS.iconst X0.here hx rfl (hb hby d5_11) ?_
          show Steps p.tables e below (s₁.setTop (mkF m 12 #[.val (.ref a1), .val (.ref a2), .val (.int (Int32.ofNat i)), .unset] [(.int (1 : Int32))])) _
          refine XS.istoreN X0.here hx rfl (hb hby d5_12) rfl (l' := #[.val (.ref a1), .val (.ref a2), .val (.int (Int32.ofNat i)), .val (.int (1 : Int32))]) rfl ?_
          show Steps p.tables e below (s₁.setTop (mkF m 13 #[.val (.ref a1), .val (.ref a2), .val (.int (Int32.ofNat i)), .val (.int (1 : Int32))] [])) _
          refine XS.aloadN X0.here hx rfl (hb hby d5_13) rfl rfl ?_
          show Steps p.tables e below (s₁.setTop (mkF m 14 #[.val (.ref a1), .val (.ref a2), .val (.int (Int32.ofNat i)), .val (.int (1 : Int32))] [(.ref a2)])) _
          refine X0.arraylength hx (cell := cl2) (by rw [e0]; exact Ar2.1) (State.isArrayOf_alike hZ.alike Ar2.2.1) (g := (mkF m 14 #[.val (.ref a1), .val (.ref a2), .val (.int (Int32.ofNat i)), .val (.int (1 : Int32))] [(.ref a2)])) rfl (rest := []) rfl (hb hby d5_14) _ ?_
          rw [len_of S2' M2']
          show Steps p.tables e below (s₁.setTop (mkF m 15 #[.val (.ref a1), .val (.ref a2), .val (.int (Int32.ofNat i)), .val (.int (1 : Int32))] [(.int (Int32.ofNat 3))])) _
          refine XS.ifNo X0.here hx rfl (hb hby d5_15) rfl (XT.i0_le_f (by decide : (0 : Int32) < (Int32.ofNat 3))) ?_
          show Steps p.tables e below (s₁.setTop (mkF m 18 #[.val (.ref a1), .val (.ref a2), .val (.int (Int32.ofNat i)), .val (.int (1 : Int32))] [])) _
          refine XS.iloadN X0.here hx rfl (hb hby d5_18) rfl ?_
          show Steps p.tables e below (s₁.setTop (mkF m 19 #[.val (.ref a1), .val (.ref a2), .val (.int (Int32.ofNat i)), .val (.int (1 : Int32))] [(.int (1 : Int32))])) _
          refine XS.ifNo X0.here hx rfl (hb hby d5_19) rfl (XT.i0_eq_f (by decide : ¬ ((1 : Int32) = (0 : Int32)))) ?_
          show Steps p.tables e below (s₁.setTop (mkF m 22 #[.val (.ref a1), .val (.ref a2), .val (.int (Int32.ofNat i)), .val (.int (1 : Int32))] [])) _
          refine XS.aloadN X0.here hx rfl (hb hby d5_22) rfl rfl ?_
          show Steps p.tables e below (s₁.setTop (mkF m 23 #[.val (.ref a1), .val (.ref a2), .val (.int (Int32.ofNat i)), .val (.int (1 : Int32))] [(.ref a1)])) _
          refine XS.iloadN X0.here hx rfl (hb hby d5_23) rfl ?_
          show Steps p.tables e below (s₁.setTop (mkF m 24 #[.val (.ref a1), .val (.ref a2), .val (.int (Int32.ofNat i)), .val (.int (1 : Int32))] [(.int (Int32.ofNat i)), (.ref a1)])) _
          refine X0.baloadBytes hx (j := (Int32.ofNat i)) (v := (.int (f (i + 0)))) (by rw [e0]; exact Ar1.1) (State.isArrayOf_alike hZ.alike Ar1.2.1) Ar1.2.2 (own_in S1 (by omega) (by omega)) (own_hat S1 H1 (by omega) (by omega)) (g := (mkF m 24 #[.val (.ref a1), .val (.ref a2), .val (.int (Int32.ofNat i)), .val (.int (1 : Int32))] [(.int (Int32.ofNat i)), (.ref a1)])) rfl rfl (hb hby d5_24) _ ?_
          show Steps p.tables e below (s₁.setTop (mkF m 25 #[.val (.ref a1), .val (.ref a2), .val (.int (Int32.ofNat i)), .val (.int (1 : Int32))] [(.int (f (i + 0)))])) _
          refine XS.aloadN X0.here hx rfl (hb hby d5_25) rfl rfl ?_
          show Steps p.tables e below (s₁.setTop (mkF m 26 #[.val (.ref a1), .val (.ref a2), .val (.int (Int32.ofNat i)), .val (.int (1 : Int32))] [(.ref a2), (.int (f (i + 0)))])) _
          refine XS.iconst X0.here hx rfl (hb hby d5_26) ?_
          show Steps p.tables e below (s₁.setTop (mkF m 27 #[.val (.ref a1), .val (.ref a2), .val (.int (Int32.ofNat i)), .val (.int (1 : Int32))] [(.int (0 : Int32)), (.ref a2), (.int (f (i + 0)))])) _
          refine X0.baloadBytes hx (j := (0 : Int32)) (v := (.int (g 0))) (by rw [e0]; exact Ar2.1) (State.isArrayOf_alike hZ.alike Ar2.2.1) Ar2.2.2 (by rw [S2]; decide) (H2 0 (by rw [S2]; decide)) (g := (mkF m 27 #[.val (.ref a1), .val (.ref a2), .val (.int (Int32.ofNat i)), .val (.int (1 : Int32))] [(.int (0 : Int32)), (.ref a2), (.int (f (i + 0)))])) rfl rfl (hb hby d5_27) _ ?_
          show Steps p.tables e below (s₁.setTop (mkF m 28 #[.val (.ref a1), .val (.ref a2), .val (.int (Int32.ofNat i)), .val (.int (1 : Int32))] [(.int (g 0)), (.int (f (i + 0)))])) _
          exact k)
      by_cases k111 : (f (i + 0)) = (g 0)
      · skip
        have q112 : ∀ t, Steps p.tables e below (s₁.setTop (mkF m 51 #[.val (.ref a1), .val (.ref a2), .val (.int (Int32.ofNat i)), .val (.int (1 : Int32))] [(.int ((Int32.ofNat i) + (1 : Int32))), (.ref a1)])) t → Steps p.tables e below (s₁.setTop (entryFrame m #[(.ref a1), (.ref a2), (.int (Int32.ofNat i))] 4)) t := fun t k => q110 t (by
            show Steps p.tables e below (s₁.setTop (mkF m 28 #[.val (.ref a1), .val (.ref a2), .val (.int (Int32.ofNat i)), .val (.int (1 : Int32))] [(.int (g 0)), (.int (f (i + 0)))])) _
            refine XS.icmpNo X0.here hx rfl (hb hby d5_28) rfl (XT.ii_ne_f (k111 : (f (i + 0)) = (g 0))) ?_
            show Steps p.tables e below (s₁.setTop (mkF m 31 #[.val (.ref a1), .val (.ref a2), .val (.int (Int32.ofNat i)), .val (.int (1 : Int32))] [])) _
            refine XS.iconst X0.here hx rfl (hb hby d5_31) ?_
            show Steps p.tables e below (s₁.setTop (mkF m 32 #[.val (.ref a1), .val (.ref a2), .val (.int (Int32.ofNat i)), .val (.int (1 : Int32))] [(.int (1 : Int32))])) _
            refine XS.goto X0.here hx rfl (pc0 := 32) (pc' := 36) rfl (hb hby d5_32) (by decide) (by decide) ?_
            show Steps p.tables e below (s₁.setTop (mkF m 36 #[.val (.ref a1), .val (.ref a2), .val (.int (Int32.ofNat i)), .val (.int (1 : Int32))] [(.int (1 : Int32))])) _
            refine XS.istoreN X0.here hx rfl (hb hby d5_36) rfl (l' := #[.val (.ref a1), .val (.ref a2), .val (.int (Int32.ofNat i)), .val (.int (1 : Int32))]) rfl ?_
            show Steps p.tables e below (s₁.setTop (mkF m 37 #[.val (.ref a1), .val (.ref a2), .val (.int (Int32.ofNat i)), .val (.int (1 : Int32))] [])) _
            refine XS.aloadN X0.here hx rfl (hb hby d5_37) rfl rfl ?_
            show Steps p.tables e below (s₁.setTop (mkF m 38 #[.val (.ref a1), .val (.ref a2), .val (.int (Int32.ofNat i)), .val (.int (1 : Int32))] [(.ref a2)])) _
            refine X0.arraylength hx (cell := cl2) (by rw [e0]; exact Ar2.1) (State.isArrayOf_alike hZ.alike Ar2.2.1) (g := (mkF m 38 #[.val (.ref a1), .val (.ref a2), .val (.int (Int32.ofNat i)), .val (.int (1 : Int32))] [(.ref a2)])) rfl (rest := []) rfl (hb hby d5_38) _ ?_
            rw [len_of S2' M2']
            show Steps p.tables e below (s₁.setTop (mkF m 39 #[.val (.ref a1), .val (.ref a2), .val (.int (Int32.ofNat i)), .val (.int (1 : Int32))] [(.int (Int32.ofNat 3))])) _
            refine XS.iconst X0.here hx rfl (hb hby d5_39) ?_
            show Steps p.tables e below (s₁.setTop (mkF m 40 #[.val (.ref a1), .val (.ref a2), .val (.int (Int32.ofNat i)), .val (.int (1 : Int32))] [(.int (1 : Int32)), (.int (Int32.ofNat 3))])) _
            refine XS.icmpNo X0.here hx rfl (hb hby d5_40) rfl (XT.ii_le_f (by decide : (1 : Int32) < (Int32.ofNat 3))) ?_
            show Steps p.tables e below (s₁.setTop (mkF m 43 #[.val (.ref a1), .val (.ref a2), .val (.int (Int32.ofNat i)), .val (.int (1 : Int32))] [])) _
            refine XS.iloadN X0.here hx rfl (hb hby d5_43) rfl ?_
            show Steps p.tables e below (s₁.setTop (mkF m 44 #[.val (.ref a1), .val (.ref a2), .val (.int (Int32.ofNat i)), .val (.int (1 : Int32))] [(.int (1 : Int32))])) _
            refine XS.ifNo X0.here hx rfl (hb hby d5_44) rfl (XT.i0_eq_f (by decide : ¬ ((1 : Int32) = (0 : Int32)))) ?_
            show Steps p.tables e below (s₁.setTop (mkF m 47 #[.val (.ref a1), .val (.ref a2), .val (.int (Int32.ofNat i)), .val (.int (1 : Int32))] [])) _
            refine XS.aloadN X0.here hx rfl (hb hby d5_47) rfl rfl ?_
            show Steps p.tables e below (s₁.setTop (mkF m 48 #[.val (.ref a1), .val (.ref a2), .val (.int (Int32.ofNat i)), .val (.int (1 : Int32))] [(.ref a1)])) _
            refine XS.iloadN X0.here hx rfl (hb hby d5_48) rfl ?_
            show Steps p.tables e below (s₁.setTop (mkF m 49 #[.val (.ref a1), .val (.ref a2), .val (.int (Int32.ofNat i)), .val (.int (1 : Int32))] [(.int (Int32.ofNat i)), (.ref a1)])) _
            refine XS.iconst X0.here hx rfl (hb hby d5_49) ?_
            show Steps p.tables e below (s₁.setTop (mkF m 50 #[.val (.ref a1), .val (.ref a2), .val (.int (Int32.ofNat i)), .val (.int (1 : Int32))] [(.int (1 : Int32)), (.int (Int32.ofNat i)), (.ref a1)])) _
            refine XS.iadd X0.here hx rfl (hb hby d5_50) rfl ?_
            show Steps p.tables e below (s₁.setTop (mkF m 51 #[.val (.ref a1), .val (.ref a2), .val (.int (Int32.ofNat i)), .val (.int (1 : Int32))] [(.int ((Int32.ofNat i) + (1 : Int32))), (.ref a1)])) _
            exact k)
        have q113 : ∀ t, Steps p.tables e below (s₁.setTop (mkF m 51 #[.val (.ref a1), .val (.ref a2), .val (.int (Int32.ofNat i)), .val (.int (1 : Int32))] [(.int (Int32.ofNat (i + 1))), (.ref a1)])) t → Steps p.tables e below (s₁.setTop (entryFrame m #[(.ref a1), (.ref a2), (.int (Int32.ofNat i))] 4)) t := fun t k => q112 t (by rw [show ((Int32.ofNat i) + (1 : Int32)) = (Int32.ofNat (i + 1)) from (own_one i).symm]; exact k)
        have q114 : ∀ t, Steps p.tables e below (s₁.setTop (mkF m 55 #[.val (.ref a1), .val (.ref a2), .val (.int (Int32.ofNat i)), .val (.int (1 : Int32))] [(.int (g 1)), (.int (f (i + 1)))])) t → Steps p.tables e below (s₁.setTop (entryFrame m #[(.ref a1), (.ref a2), (.int (Int32.ofNat i))] 4)) t := fun t k => q113 t (by
            show Steps p.tables e below (s₁.setTop (mkF m 51 #[.val (.ref a1), .val (.ref a2), .val (.int (Int32.ofNat i)), .val (.int (1 : Int32))] [(.int (Int32.ofNat (i + 1))), (.ref a1)])) _
            refine X0.baloadBytes hx (j := (Int32.ofNat (i + 1))) (v := (.int (f (i + 1)))) (by rw [e0]; exact Ar1.1) (State.isArrayOf_alike hZ.alike Ar1.2.1) Ar1.2.2 (own_in S1 (by omega) (by omega)) (own_hat S1 H1 (by omega) (by omega)) (g := (mkF m 51 #[.val (.ref a1), .val (.ref a2), .val (.int (Int32.ofNat i)), .val (.int (1 : Int32))] [(.int (Int32.ofNat (i + 1))), (.ref a1)])) rfl rfl (hb hby d5_51) _ ?_
            show Steps p.tables e below (s₁.setTop (mkF m 52 #[.val (.ref a1), .val (.ref a2), .val (.int (Int32.ofNat i)), .val (.int (1 : Int32))] [(.int (f (i + 1)))])) _
            refine XS.aloadN X0.here hx rfl (hb hby d5_52) rfl rfl ?_
            show Steps p.tables e below (s₁.setTop (mkF m 53 #[.val (.ref a1), .val (.ref a2), .val (.int (Int32.ofNat i)), .val (.int (1 : Int32))] [(.ref a2), (.int (f (i + 1)))])) _
            refine XS.iconst X0.here hx rfl (hb hby d5_53) ?_
            show Steps p.tables e below (s₁.setTop (mkF m 54 #[.val (.ref a1), .val (.ref a2), .val (.int (Int32.ofNat i)), .val (.int (1 : Int32))] [(.int (1 : Int32)), (.ref a2), (.int (f (i + 1)))])) _
            refine X0.baloadBytes hx (j := (1 : Int32)) (v := (.int (g 1))) (by rw [e0]; exact Ar2.1) (State.isArrayOf_alike hZ.alike Ar2.2.1) Ar2.2.2 (by rw [S2]; decide) (H2 1 (by rw [S2]; decide)) (g := (mkF m 54 #[.val (.ref a1), .val (.ref a2), .val (.int (Int32.ofNat i)), .val (.int (1 : Int32))] [(.int (1 : Int32)), (.ref a2), (.int (f (i + 1)))])) rfl rfl (hb hby d5_54) _ ?_
            show Steps p.tables e below (s₁.setTop (mkF m 55 #[.val (.ref a1), .val (.ref a2), .val (.int (Int32.ofNat i)), .val (.int (1 : Int32))] [(.int (g 1)), (.int (f (i + 1)))])) _
            exact k)
        by_cases k115 : (f (i + 1)) = (g 1)
        · skip
          have q116 : ∀ t, Steps p.tables e below (s₁.setTop (mkF m 78 #[.val (.ref a1), .val (.ref a2), .val (.int (Int32.ofNat i)), .val (.int (1 : Int32))] [(.int ((Int32.ofNat i) + (2 : Int32))), (.ref a1)])) t → Steps p.tables e below (s₁.setTop (entryFrame m #[(.ref a1), (.ref a2), (.int (Int32.ofNat i))] 4)) t := fun t k => q114 t (by
              show Steps p.tables e below (s₁.setTop (mkF m 55 #[.val (.ref a1), .val (.ref a2), .val (.int (Int32.ofNat i)), .val (.int (1 : Int32))] [(.int (g 1)), (.int (f (i + 1)))])) _
              refine XS.icmpNo X0.here hx rfl (hb hby d5_55) rfl (XT.ii_ne_f (k115 : (f (i + 1)) = (g 1))) ?_
              show Steps p.tables e below (s₁.setTop (mkF m 58 #[.val (.ref a1), .val (.ref a2), .val (.int (Int32.ofNat i)), .val (.int (1 : Int32))] [])) _
              refine XS.iconst X0.here hx rfl (hb hby d5_58) ?_
              show Steps p.tables e below (s₁.setTop (mkF m 59 #[.val (.ref a1), .val (.ref a2), .val (.int (Int32.ofNat i)), .val (.int (1 : Int32))] [(.int (1 : Int32))])) _
              refine XS.goto X0.here hx rfl (pc0 := 59) (pc' := 63) rfl (hb hby d5_59) (by decide) (by decide) ?_
              show Steps p.tables e below (s₁.setTop (mkF m 63 #[.val (.ref a1), .val (.ref a2), .val (.int (Int32.ofNat i)), .val (.int (1 : Int32))] [(.int (1 : Int32))])) _
              refine XS.istoreN X0.here hx rfl (hb hby d5_63) rfl (l' := #[.val (.ref a1), .val (.ref a2), .val (.int (Int32.ofNat i)), .val (.int (1 : Int32))]) rfl ?_
              show Steps p.tables e below (s₁.setTop (mkF m 64 #[.val (.ref a1), .val (.ref a2), .val (.int (Int32.ofNat i)), .val (.int (1 : Int32))] [])) _
              refine XS.aloadN X0.here hx rfl (hb hby d5_64) rfl rfl ?_
              show Steps p.tables e below (s₁.setTop (mkF m 65 #[.val (.ref a1), .val (.ref a2), .val (.int (Int32.ofNat i)), .val (.int (1 : Int32))] [(.ref a2)])) _
              refine X0.arraylength hx (cell := cl2) (by rw [e0]; exact Ar2.1) (State.isArrayOf_alike hZ.alike Ar2.2.1) (g := (mkF m 65 #[.val (.ref a1), .val (.ref a2), .val (.int (Int32.ofNat i)), .val (.int (1 : Int32))] [(.ref a2)])) rfl (rest := []) rfl (hb hby d5_65) _ ?_
              rw [len_of S2' M2']
              show Steps p.tables e below (s₁.setTop (mkF m 66 #[.val (.ref a1), .val (.ref a2), .val (.int (Int32.ofNat i)), .val (.int (1 : Int32))] [(.int (Int32.ofNat 3))])) _
              refine XS.iconst X0.here hx rfl (hb hby d5_66) ?_
              show Steps p.tables e below (s₁.setTop (mkF m 67 #[.val (.ref a1), .val (.ref a2), .val (.int (Int32.ofNat i)), .val (.int (1 : Int32))] [(.int (2 : Int32)), (.int (Int32.ofNat 3))])) _
              refine XS.icmpNo X0.here hx rfl (hb hby d5_67) rfl (XT.ii_le_f (by decide : (2 : Int32) < (Int32.ofNat 3))) ?_
              show Steps p.tables e below (s₁.setTop (mkF m 70 #[.val (.ref a1), .val (.ref a2), .val (.int (Int32.ofNat i)), .val (.int (1 : Int32))] [])) _
              refine XS.iloadN X0.here hx rfl (hb hby d5_70) rfl ?_
              show Steps p.tables e below (s₁.setTop (mkF m 71 #[.val (.ref a1), .val (.ref a2), .val (.int (Int32.ofNat i)), .val (.int (1 : Int32))] [(.int (1 : Int32))])) _
              refine XS.ifNo X0.here hx rfl (hb hby d5_71) rfl (XT.i0_eq_f (by decide : ¬ ((1 : Int32) = (0 : Int32)))) ?_
              show Steps p.tables e below (s₁.setTop (mkF m 74 #[.val (.ref a1), .val (.ref a2), .val (.int (Int32.ofNat i)), .val (.int (1 : Int32))] [])) _
              refine XS.aloadN X0.here hx rfl (hb hby d5_74) rfl rfl ?_
              show Steps p.tables e below (s₁.setTop (mkF m 75 #[.val (.ref a1), .val (.ref a2), .val (.int (Int32.ofNat i)), .val (.int (1 : Int32))] [(.ref a1)])) _
              refine XS.iloadN X0.here hx rfl (hb hby d5_75) rfl ?_
              show Steps p.tables e below (s₁.setTop (mkF m 76 #[.val (.ref a1), .val (.ref a2), .val (.int (Int32.ofNat i)), .val (.int (1 : Int32))] [(.int (Int32.ofNat i)), (.ref a1)])) _
              refine XS.iconst X0.here hx rfl (hb hby d5_76) ?_
              show Steps p.tables e below (s₁.setTop (mkF m 77 #[.val (.ref a1), .val (.ref a2), .val (.int (Int32.ofNat i)), .val (.int (1 : Int32))] [(.int (2 : Int32)), (.int (Int32.ofNat i)), (.ref a1)])) _
              refine XS.iadd X0.here hx rfl (hb hby d5_77) rfl ?_
              show Steps p.tables e below (s₁.setTop (mkF m 78 #[.val (.ref a1), .val (.ref a2), .val (.int (Int32.ofNat i)), .val (.int (1 : Int32))] [(.int ((Int32.ofNat i) + (2 : Int32))), (.ref a1)])) _
              exact k)
          have q117 : ∀ t, Steps p.tables e below (s₁.setTop (mkF m 78 #[.val (.ref a1), .val (.ref a2), .val (.int (Int32.ofNat i)), .val (.int (1 : Int32))] [(.int (Int32.ofNat (i + 2))), (.ref a1)])) t → Steps p.tables e below (s₁.setTop (entryFrame m #[(.ref a1), (.ref a2), (.int (Int32.ofNat i))] 4)) t := fun t k => q116 t (by rw [show ((Int32.ofNat i) + (2 : Int32)) = (Int32.ofNat (i + 2)) from (own_two i).symm]; exact k)
          have q118 : ∀ t, Steps p.tables e below (s₁.setTop (mkF m 82 #[.val (.ref a1), .val (.ref a2), .val (.int (Int32.ofNat i)), .val (.int (1 : Int32))] [(.int (g 2)), (.int (f (i + 2)))])) t → Steps p.tables e below (s₁.setTop (entryFrame m #[(.ref a1), (.ref a2), (.int (Int32.ofNat i))] 4)) t := fun t k => q117 t (by
              show Steps p.tables e below (s₁.setTop (mkF m 78 #[.val (.ref a1), .val (.ref a2), .val (.int (Int32.ofNat i)), .val (.int (1 : Int32))] [(.int (Int32.ofNat (i + 2))), (.ref a1)])) _
              refine X0.baloadBytes hx (j := (Int32.ofNat (i + 2))) (v := (.int (f (i + 2)))) (by rw [e0]; exact Ar1.1) (State.isArrayOf_alike hZ.alike Ar1.2.1) Ar1.2.2 (own_in S1 (by omega) (by omega)) (own_hat S1 H1 (by omega) (by omega)) (g := (mkF m 78 #[.val (.ref a1), .val (.ref a2), .val (.int (Int32.ofNat i)), .val (.int (1 : Int32))] [(.int (Int32.ofNat (i + 2))), (.ref a1)])) rfl rfl (hb hby d5_78) _ ?_
              show Steps p.tables e below (s₁.setTop (mkF m 79 #[.val (.ref a1), .val (.ref a2), .val (.int (Int32.ofNat i)), .val (.int (1 : Int32))] [(.int (f (i + 2)))])) _
              refine XS.aloadN X0.here hx rfl (hb hby d5_79) rfl rfl ?_
              show Steps p.tables e below (s₁.setTop (mkF m 80 #[.val (.ref a1), .val (.ref a2), .val (.int (Int32.ofNat i)), .val (.int (1 : Int32))] [(.ref a2), (.int (f (i + 2)))])) _
              refine XS.iconst X0.here hx rfl (hb hby d5_80) ?_
              show Steps p.tables e below (s₁.setTop (mkF m 81 #[.val (.ref a1), .val (.ref a2), .val (.int (Int32.ofNat i)), .val (.int (1 : Int32))] [(.int (2 : Int32)), (.ref a2), (.int (f (i + 2)))])) _
              refine X0.baloadBytes hx (j := (2 : Int32)) (v := (.int (g 2))) (by rw [e0]; exact Ar2.1) (State.isArrayOf_alike hZ.alike Ar2.2.1) Ar2.2.2 (by rw [S2]; decide) (H2 2 (by rw [S2]; decide)) (g := (mkF m 81 #[.val (.ref a1), .val (.ref a2), .val (.int (Int32.ofNat i)), .val (.int (1 : Int32))] [(.int (2 : Int32)), (.ref a2), (.int (f (i + 2)))])) rfl rfl (hb hby d5_81) _ ?_
              show Steps p.tables e below (s₁.setTop (mkF m 82 #[.val (.ref a1), .val (.ref a2), .val (.int (Int32.ofNat i)), .val (.int (1 : Int32))] [(.int (g 2)), (.int (f (i + 2)))])) _
              exact k)
          by_cases k119 : (f (i + 2)) = (g 2)
          · skip
            have q120 : ∀ t, Steps p.tables e below (s₁.setTop (mkF m 92 #[.val (.ref a1), .val (.ref a2), .val (.int (Int32.ofNat i)), .val (.int (1 : Int32))] [(.int (1 : Int32))])) t → Steps p.tables e below (s₁.setTop (entryFrame m #[(.ref a1), (.ref a2), (.int (Int32.ofNat i))] 4)) t := fun t k => q118 t (by
                show Steps p.tables e below (s₁.setTop (mkF m 82 #[.val (.ref a1), .val (.ref a2), .val (.int (Int32.ofNat i)), .val (.int (1 : Int32))] [(.int (g 2)), (.int (f (i + 2)))])) _
                refine XS.icmpNo X0.here hx rfl (hb hby d5_82) rfl (XT.ii_ne_f (k119 : (f (i + 2)) = (g 2))) ?_
                show Steps p.tables e below (s₁.setTop (mkF m 85 #[.val (.ref a1), .val (.ref a2), .val (.int (Int32.ofNat i)), .val (.int (1 : Int32))] [])) _
                refine XS.iconst X0.here hx rfl (hb hby d5_85) ?_
                show Steps p.tables e below (s₁.setTop (mkF m 86 #[.val (.ref a1), .val (.ref a2), .val (.int (Int32.ofNat i)), .val (.int (1 : Int32))] [(.int (1 : Int32))])) _
                refine XS.goto X0.here hx rfl (pc0 := 86) (pc' := 90) rfl (hb hby d5_86) (by decide) (by decide) ?_
                show Steps p.tables e below (s₁.setTop (mkF m 90 #[.val (.ref a1), .val (.ref a2), .val (.int (Int32.ofNat i)), .val (.int (1 : Int32))] [(.int (1 : Int32))])) _
                refine XS.istoreN X0.here hx rfl (hb hby d5_90) rfl (l' := #[.val (.ref a1), .val (.ref a2), .val (.int (Int32.ofNat i)), .val (.int (1 : Int32))]) rfl ?_
                show Steps p.tables e below (s₁.setTop (mkF m 91 #[.val (.ref a1), .val (.ref a2), .val (.int (Int32.ofNat i)), .val (.int (1 : Int32))] [])) _
                refine XS.iloadN X0.here hx rfl (hb hby d5_91) rfl ?_
                show Steps p.tables e below (s₁.setTop (mkF m 92 #[.val (.ref a1), .val (.ref a2), .val (.int (Int32.ofNat i)), .val (.int (1 : Int32))] [(.int (1 : Int32))])) _
                exact k)
            obtain ⟨fs, hr, hrun, hended, hW, hsame⟩ := X0.leave (v := some (.int (1 : Int32))) (fun h => by rw [Bd.returns] at h; cases h)
            refine ⟨_, _, q120 _ ?_, hrun, hended, _, _, rfl, ?_, ⟨_, rfl⟩, hW, hsame.mono (by decide) (by decide)⟩
            · show Steps p.tables e below (s₁.setTop (mkF m 92 #[.val (.ref a1), .val (.ref a2), .val (.int (Int32.ofNat i)), .val (.int (1 : Int32))] [(.int (1 : Int32))])) _
              exact retN X0 hx (t := .boolean) Bd.returns (by simp) (hb hby d5_92) hr
            · show QN (own_mt f g n 3 i) h0 n0 _ s₁.heap _
              exact ⟨by unfold own_mt own_eqv; rw [if_neg (by omega), own_mis3, if_pos k111, if_pos k115, if_pos k119] <;> rfl, N0, e0⟩
          · skip
            have q121 : ∀ t, Steps p.tables e below (s₁.setTop (mkF m 92 #[.val (.ref a1), .val (.ref a2), .val (.int (Int32.ofNat i)), .val (.int (0 : Int32))] [(.int (0 : Int32))])) t → Steps p.tables e below (s₁.setTop (entryFrame m #[(.ref a1), (.ref a2), (.int (Int32.ofNat i))] 4)) t := fun t k => q118 t (by
                show Steps p.tables e below (s₁.setTop (mkF m 82 #[.val (.ref a1), .val (.ref a2), .val (.int (Int32.ofNat i)), .val (.int (1 : Int32))] [(.int (g 2)), (.int (f (i + 2)))])) _
                refine XS.icmpYes X0.here hx rfl (pc0 := 82) (pc' := 89) rfl (hb hby d5_82) rfl (XT.ii_ne_t (k119 : ¬ ((f (i + 2)) = (g 2)))) (by decide) (by decide) ?_
                show Steps p.tables e below (s₁.setTop (mkF m 89 #[.val (.ref a1), .val (.ref a2), .val (.int (Int32.ofNat i)), .val (.int (1 : Int32))] [])) _
                refine XS.iconst X0.here hx rfl (hb hby d5_89) ?_
                show Steps p.tables e below (s₁.setTop (mkF m 90 #[.val (.ref a1), .val (.ref a2), .val (.int (Int32.ofNat i)), .val (.int (1 : Int32))] [(.int (0 : Int32))])) _
                refine XS.istoreN X0.here hx rfl (hb hby d5_90) rfl (l' := #[.val (.ref a1), .val (.ref a2), .val (.int (Int32.ofNat i)), .val (.int (0 : Int32))]) rfl ?_
                show Steps p.tables e below (s₁.setTop (mkF m 91 #[.val (.ref a1), .val (.ref a2), .val (.int (Int32.ofNat i)), .val (.int (0 : Int32))] [])) _
                refine XS.iloadN X0.here hx rfl (hb hby d5_91) rfl ?_
                show Steps p.tables e below (s₁.setTop (mkF m 92 #[.val (.ref a1), .val (.ref a2), .val (.int (Int32.ofNat i)), .val (.int (0 : Int32))] [(.int (0 : Int32))])) _
                exact k)
            obtain ⟨fs, hr, hrun, hended, hW, hsame⟩ := X0.leave (v := some (.int (0 : Int32))) (fun h => by rw [Bd.returns] at h; cases h)
            refine ⟨_, _, q121 _ ?_, hrun, hended, _, _, rfl, ?_, ⟨_, rfl⟩, hW, hsame.mono (by decide) (by decide)⟩
            · show Steps p.tables e below (s₁.setTop (mkF m 92 #[.val (.ref a1), .val (.ref a2), .val (.int (Int32.ofNat i)), .val (.int (0 : Int32))] [(.int (0 : Int32))])) _
              exact retN X0 hx (t := .boolean) Bd.returns (by simp) (hb hby d5_92) hr
            · show QN (own_mt f g n 3 i) h0 n0 _ s₁.heap _
              exact ⟨by unfold own_mt own_eqv; rw [if_neg (by omega), own_mis3, if_pos k111, if_pos k115, if_neg k119] <;> rfl, N0, e0⟩
        · skip
          have q122 : ∀ t, Steps p.tables e below (s₁.setTop (mkF m 92 #[.val (.ref a1), .val (.ref a2), .val (.int (Int32.ofNat i)), .val (.int (0 : Int32))] [(.int (0 : Int32))])) t → Steps p.tables e below (s₁.setTop (entryFrame m #[(.ref a1), (.ref a2), (.int (Int32.ofNat i))] 4)) t := fun t k => q114 t (by
              show Steps p.tables e below (s₁.setTop (mkF m 55 #[.val (.ref a1), .val (.ref a2), .val (.int (Int32.ofNat i)), .val (.int (1 : Int32))] [(.int (g 1)), (.int (f (i + 1)))])) _
              refine XS.icmpYes X0.here hx rfl (pc0 := 55) (pc' := 62) rfl (hb hby d5_55) rfl (XT.ii_ne_t (k115 : ¬ ((f (i + 1)) = (g 1)))) (by decide) (by decide) ?_
              show Steps p.tables e below (s₁.setTop (mkF m 62 #[.val (.ref a1), .val (.ref a2), .val (.int (Int32.ofNat i)), .val (.int (1 : Int32))] [])) _
              refine XS.iconst X0.here hx rfl (hb hby d5_62) ?_
              show Steps p.tables e below (s₁.setTop (mkF m 63 #[.val (.ref a1), .val (.ref a2), .val (.int (Int32.ofNat i)), .val (.int (1 : Int32))] [(.int (0 : Int32))])) _
              refine XS.istoreN X0.here hx rfl (hb hby d5_63) rfl (l' := #[.val (.ref a1), .val (.ref a2), .val (.int (Int32.ofNat i)), .val (.int (0 : Int32))]) rfl ?_
              show Steps p.tables e below (s₁.setTop (mkF m 64 #[.val (.ref a1), .val (.ref a2), .val (.int (Int32.ofNat i)), .val (.int (0 : Int32))] [])) _
              refine XS.aloadN X0.here hx rfl (hb hby d5_64) rfl rfl ?_
              show Steps p.tables e below (s₁.setTop (mkF m 65 #[.val (.ref a1), .val (.ref a2), .val (.int (Int32.ofNat i)), .val (.int (0 : Int32))] [(.ref a2)])) _
              refine X0.arraylength hx (cell := cl2) (by rw [e0]; exact Ar2.1) (State.isArrayOf_alike hZ.alike Ar2.2.1) (g := (mkF m 65 #[.val (.ref a1), .val (.ref a2), .val (.int (Int32.ofNat i)), .val (.int (0 : Int32))] [(.ref a2)])) rfl (rest := []) rfl (hb hby d5_65) _ ?_
              rw [len_of S2' M2']
              show Steps p.tables e below (s₁.setTop (mkF m 66 #[.val (.ref a1), .val (.ref a2), .val (.int (Int32.ofNat i)), .val (.int (0 : Int32))] [(.int (Int32.ofNat 3))])) _
              refine XS.iconst X0.here hx rfl (hb hby d5_66) ?_
              show Steps p.tables e below (s₁.setTop (mkF m 67 #[.val (.ref a1), .val (.ref a2), .val (.int (Int32.ofNat i)), .val (.int (0 : Int32))] [(.int (2 : Int32)), (.int (Int32.ofNat 3))])) _
              refine XS.icmpNo X0.here hx rfl (hb hby d5_67) rfl (XT.ii_le_f (by decide : (2 : Int32) < (Int32.ofNat 3))) ?_
              show Steps p.tables e below (s₁.setTop (mkF m 70 #[.val (.ref a1), .val (.ref a2), .val (.int (Int32.ofNat i)), .val (.int (0 : Int32))] [])) _
              refine XS.iloadN X0.here hx rfl (hb hby d5_70) rfl ?_
              show Steps p.tables e below (s₁.setTop (mkF m 71 #[.val (.ref a1), .val (.ref a2), .val (.int (Int32.ofNat i)), .val (.int (0 : Int32))] [(.int (0 : Int32))])) _
              refine XS.ifYes X0.here hx rfl (pc0 := 71) (pc' := 89) rfl (hb hby d5_71) rfl (XT.i0_eq_t (rfl : (0 : Int32) = (0 : Int32))) (by decide) (by decide) ?_
              show Steps p.tables e below (s₁.setTop (mkF m 89 #[.val (.ref a1), .val (.ref a2), .val (.int (Int32.ofNat i)), .val (.int (0 : Int32))] [])) _
              refine XS.iconst X0.here hx rfl (hb hby d5_89) ?_
              show Steps p.tables e below (s₁.setTop (mkF m 90 #[.val (.ref a1), .val (.ref a2), .val (.int (Int32.ofNat i)), .val (.int (0 : Int32))] [(.int (0 : Int32))])) _
              refine XS.istoreN X0.here hx rfl (hb hby d5_90) rfl (l' := #[.val (.ref a1), .val (.ref a2), .val (.int (Int32.ofNat i)), .val (.int (0 : Int32))]) rfl ?_
              show Steps p.tables e below (s₁.setTop (mkF m 91 #[.val (.ref a1), .val (.ref a2), .val (.int (Int32.ofNat i)), .val (.int (0 : Int32))] [])) _
              refine XS.iloadN X0.here hx rfl (hb hby d5_91) rfl ?_
              show Steps p.tables e below (s₁.setTop (mkF m 92 #[.val (.ref a1), .val (.ref a2), .val (.int (Int32.ofNat i)), .val (.int (0 : Int32))] [(.int (0 : Int32))])) _
              exact k)
          obtain ⟨fs, hr, hrun, hended, hW, hsame⟩ := X0.leave (v := some (.int (0 : Int32))) (fun h => by rw [Bd.returns] at h; cases h)
          refine ⟨_, _, q122 _ ?_, hrun, hended, _, _, rfl, ?_, ⟨_, rfl⟩, hW, hsame.mono (by decide) (by decide)⟩
          · show Steps p.tables e below (s₁.setTop (mkF m 92 #[.val (.ref a1), .val (.ref a2), .val (.int (Int32.ofNat i)), .val (.int (0 : Int32))] [(.int (0 : Int32))])) _
            exact retN X0 hx (t := .boolean) Bd.returns (by simp) (hb hby d5_92) hr
          · show QN (own_mt f g n 3 i) h0 n0 _ s₁.heap _
            exact ⟨by unfold own_mt own_eqv; rw [if_neg (by omega), own_mis3, if_pos k111, if_neg k115] <;> rfl, N0, e0⟩
      · skip
        have q123 : ∀ t, Steps p.tables e below (s₁.setTop (mkF m 92 #[.val (.ref a1), .val (.ref a2), .val (.int (Int32.ofNat i)), .val (.int (0 : Int32))] [(.int (0 : Int32))])) t → Steps p.tables e below (s₁.setTop (entryFrame m #[(.ref a1), (.ref a2), (.int (Int32.ofNat i))] 4)) t := fun t k => q110 t (by
            show Steps p.tables e below (s₁.setTop (mkF m 28 #[.val (.ref a1), .val (.ref a2), .val (.int (Int32.ofNat i)), .val (.int (1 : Int32))] [(.int (g 0)), (.int (f (i + 0)))])) _
            refine XS.icmpYes X0.here hx rfl (pc0 := 28) (pc' := 35) rfl (hb hby d5_28) rfl (XT.ii_ne_t (k111 : ¬ ((f (i + 0)) = (g 0)))) (by decide) (by decide) ?_
            show Steps p.tables e below (s₁.setTop (mkF m 35 #[.val (.ref a1), .val (.ref a2), .val (.int (Int32.ofNat i)), .val (.int (1 : Int32))] [])) _
            refine XS.iconst X0.here hx rfl (hb hby d5_35) ?_
            show Steps p.tables e below (s₁.setTop (mkF m 36 #[.val (.ref a1), .val (.ref a2), .val (.int (Int32.ofNat i)), .val (.int (1 : Int32))] [(.int (0 : Int32))])) _
            refine XS.istoreN X0.here hx rfl (hb hby d5_36) rfl (l' := #[.val (.ref a1), .val (.ref a2), .val (.int (Int32.ofNat i)), .val (.int (0 : Int32))]) rfl ?_
            show Steps p.tables e below (s₁.setTop (mkF m 37 #[.val (.ref a1), .val (.ref a2), .val (.int (Int32.ofNat i)), .val (.int (0 : Int32))] [])) _
            refine XS.aloadN X0.here hx rfl (hb hby d5_37) rfl rfl ?_
            show Steps p.tables e below (s₁.setTop (mkF m 38 #[.val (.ref a1), .val (.ref a2), .val (.int (Int32.ofNat i)), .val (.int (0 : Int32))] [(.ref a2)])) _
            refine X0.arraylength hx (cell := cl2) (by rw [e0]; exact Ar2.1) (State.isArrayOf_alike hZ.alike Ar2.2.1) (g := (mkF m 38 #[.val (.ref a1), .val (.ref a2), .val (.int (Int32.ofNat i)), .val (.int (0 : Int32))] [(.ref a2)])) rfl (rest := []) rfl (hb hby d5_38) _ ?_
            rw [len_of S2' M2']
            show Steps p.tables e below (s₁.setTop (mkF m 39 #[.val (.ref a1), .val (.ref a2), .val (.int (Int32.ofNat i)), .val (.int (0 : Int32))] [(.int (Int32.ofNat 3))])) _
            refine XS.iconst X0.here hx rfl (hb hby d5_39) ?_
            show Steps p.tables e below (s₁.setTop (mkF m 40 #[.val (.ref a1), .val (.ref a2), .val (.int (Int32.ofNat i)), .val (.int (0 : Int32))] [(.int (1 : Int32)), (.int (Int32.ofNat 3))])) _
            refine XS.icmpNo X0.here hx rfl (hb hby d5_40) rfl (XT.ii_le_f (by decide : (1 : Int32) < (Int32.ofNat 3))) ?_
            show Steps p.tables e below (s₁.setTop (mkF m 43 #[.val (.ref a1), .val (.ref a2), .val (.int (Int32.ofNat i)), .val (.int (0 : Int32))] [])) _
            refine XS.iloadN X0.here hx rfl (hb hby d5_43) rfl ?_
            show Steps p.tables e below (s₁.setTop (mkF m 44 #[.val (.ref a1), .val (.ref a2), .val (.int (Int32.ofNat i)), .val (.int (0 : Int32))] [(.int (0 : Int32))])) _
            refine XS.ifYes X0.here hx rfl (pc0 := 44) (pc' := 62) rfl (hb hby d5_44) rfl (XT.i0_eq_t (rfl : (0 : Int32) = (0 : Int32))) (by decide) (by decide) ?_
            show Steps p.tables e below (s₁.setTop (mkF m 62 #[.val (.ref a1), .val (.ref a2), .val (.int (Int32.ofNat i)), .val (.int (0 : Int32))] [])) _
            refine XS.iconst X0.here hx rfl (hb hby d5_62) ?_
            show Steps p.tables e below (s₁.setTop (mkF m 63 #[.val (.ref a1), .val (.ref a2), .val (.int (Int32.ofNat i)), .val (.int (0 : Int32))] [(.int (0 : Int32))])) _
            refine XS.istoreN X0.here hx rfl (hb hby d5_63) rfl (l' := #[.val (.ref a1), .val (.ref a2), .val (.int (Int32.ofNat i)), .val (.int (0 : Int32))]) rfl ?_
            show Steps p.tables e below (s₁.setTop (mkF m 64 #[.val (.ref a1), .val (.ref a2), .val (.int (Int32.ofNat i)), .val (.int (0 : Int32))] [])) _
            refine XS.aloadN X0.here hx rfl (hb hby d5_64) rfl rfl ?_
            show Steps p.tables e below (s₁.setTop (mkF m 65 #[.val (.ref a1), .val (.ref a2), .val (.int (Int32.ofNat i)), .val (.int (0 : Int32))] [(.ref a2)])) _
            refine X0.arraylength hx (cell := cl2) (by rw [e0]; exact Ar2.1) (State.isArrayOf_alike hZ.alike Ar2.2.1) (g := (mkF m 65 #[.val (.ref a1), .val (.ref a2), .val (.int (Int32.ofNat i)), .val (.int (0 : Int32))] [(.ref a2)])) rfl (rest := []) rfl (hb hby d5_65) _ ?_
            rw [len_of S2' M2']
            show Steps p.tables e below (s₁.setTop (mkF m 66 #[.val (.ref a1), .val (.ref a2), .val (.int (Int32.ofNat i)), .val (.int (0 : Int32))] [(.int (Int32.ofNat 3))])) _
            refine XS.iconst X0.here hx rfl (hb hby d5_66) ?_
            show Steps p.tables e below (s₁.setTop (mkF m 67 #[.val (.ref a1), .val (.ref a2), .val (.int (Int32.ofNat i)), .val (.int (0 : Int32))] [(.int (2 : Int32)), (.int (Int32.ofNat 3))])) _
            refine XS.icmpNo X0.here hx rfl (hb hby d5_67) rfl (XT.ii_le_f (by decide : (2 : Int32) < (Int32.ofNat 3))) ?_
            show Steps p.tables e below (s₁.setTop (mkF m 70 #[.val (.ref a1), .val (.ref a2), .val (.int (Int32.ofNat i)), .val (.int (0 : Int32))] [])) _
            refine XS.iloadN X0.here hx rfl (hb hby d5_70) rfl ?_
            show Steps p.tables e below (s₁.setTop (mkF m 71 #[.val (.ref a1), .val (.ref a2), .val (.int (Int32.ofNat i)), .val (.int (0 : Int32))] [(.int (0 : Int32))])) _
            refine XS.ifYes X0.here hx rfl (pc0 := 71) (pc' := 89) rfl (hb hby d5_71) rfl (XT.i0_eq_t (rfl : (0 : Int32) = (0 : Int32))) (by decide) (by decide) ?_
            show Steps p.tables e below (s₁.setTop (mkF m 89 #[.val (.ref a1), .val (.ref a2), .val (.int (Int32.ofNat i)), .val (.int (0 : Int32))] [])) _
            refine XS.iconst X0.here hx rfl (hb hby d5_89) ?_
            show Steps p.tables e below (s₁.setTop (mkF m 90 #[.val (.ref a1), .val (.ref a2), .val (.int (Int32.ofNat i)), .val (.int (0 : Int32))] [(.int (0 : Int32))])) _
            refine XS.istoreN X0.here hx rfl (hb hby d5_90) rfl (l' := #[.val (.ref a1), .val (.ref a2), .val (.int (Int32.ofNat i)), .val (.int (0 : Int32))]) rfl ?_
            show Steps p.tables e below (s₁.setTop (mkF m 91 #[.val (.ref a1), .val (.ref a2), .val (.int (Int32.ofNat i)), .val (.int (0 : Int32))] [])) _
            refine XS.iloadN X0.here hx rfl (hb hby d5_91) rfl ?_
            show Steps p.tables e below (s₁.setTop (mkF m 92 #[.val (.ref a1), .val (.ref a2), .val (.int (Int32.ofNat i)), .val (.int (0 : Int32))] [(.int (0 : Int32))])) _
            exact k)
        obtain ⟨fs, hr, hrun, hended, hW, hsame⟩ := X0.leave (v := some (.int (0 : Int32))) (fun h => by rw [Bd.returns] at h; cases h)
        refine ⟨_, _, q123 _ ?_, hrun, hended, _, _, rfl, ?_, ⟨_, rfl⟩, hW, hsame.mono (by decide) (by decide)⟩
        · show Steps p.tables e below (s₁.setTop (mkF m 92 #[.val (.ref a1), .val (.ref a2), .val (.int (Int32.ofNat i)), .val (.int (0 : Int32))] [(.int (0 : Int32))])) _
          exact retN X0 hx (t := .boolean) Bd.returns (by simp) (hb hby d5_92) hr
        · show QN (own_mt f g n 3 i) h0 n0 _ s₁.heap _
          exact ⟨by unfold own_mt own_eqv; rw [if_neg (by omega), own_mis3, if_neg k111] <;> rfl, N0, e0⟩
theorem d6_5 : decode prog_14_method_10_code 5 = .ok (.iload 4, 2) := by decide +kernel
theorem d6_7 : decode prog_14_method_10_code 7 = .ok (.aload_n 2, 1) := by decide +kernel
theorem d6_8 : decode prog_14_method_10_code 8 = .ok (.arraylength, 1) := by decide +kernel
theorem d6_9 : decode prog_14_method_10_code 9 = .ok (.iadd, 1) := by decide +kernel
theorem d6_10 : decode prog_14_method_10_code 10 = .ok (.aload_n 0, 1) := by decide +kernel
theorem d6_11 : decode prog_14_method_10_code 11 = .ok (.arraylength, 1) := by decide +kernel
theorem d6_12 : decode prog_14_method_10_code 12 = .ok (.if_icmp .gt 34, 3) := by decide +kernel
theorem d6_15 : decode prog_14_method_10_code 15 = .ok (.iload_n 3, 1) := by decide +kernel
theorem d6_16 : decode prog_14_method_10_code 16 = .ok (.ifCond .ge 30, 3) := by decide +kernel
theorem d6_19 : decode prog_14_method_10_code 19 = .ok (.aload_n 0, 1) := by decide +kernel
theorem d6_20 : decode prog_14_method_10_code 20 = .ok (.iload 4, 2) := by decide +kernel
theorem d6_22 : decode prog_14_method_10_code 22 = .ok (.iload 4, 2) := by decide +kernel
theorem d6_24 : decode prog_14_method_10_code 24 = .ok (.aload_n 2, 1) := by decide +kernel
theorem d6_25 : decode prog_14_method_10_code 25 = .ok (.arraylength, 1) := by decide +kernel
theorem d6_26 : decode prog_14_method_10_code 26 = .ok (.iadd, 1) := by decide +kernel
theorem d6_27 : decode prog_14_method_10_code 27 = .ok (.aload_n 2, 1) := by decide +kernel
theorem d6_28 : decode prog_14_method_10_code 28 = .ok (.iconst 0, 1) := by decide +kernel
theorem d6_29 : decode prog_14_method_10_code 29 = .ok (.aload_n 2, 1) := by decide +kernel
theorem d6_30 : decode prog_14_method_10_code 30 = .ok (.arraylength, 1) := by decide +kernel
theorem pd___BII_BII_Z : parseMethodDescriptor "([BII[BII)Z" = some ⟨[(.array .byte), .int, .int, (.array .byte), .int, .int], some .boolean⟩ := by decide +kernel
theorem d6_31 : decode prog_14_method_10_code 31 = .ok (.invokestatic 139, 3) := by decide +kernel
theorem d6_34 : decode prog_14_method_10_code 34 = .ok (.ifCond .eq 6, 3) := by decide +kernel
theorem d6_40 : decode prog_14_method_10_code 40 = .ok (.iinc 4 1, 3) := by decide +kernel
theorem d6_43 : decode prog_14_method_10_code 43 = .ok (.goto (-38), 3) := by decide +kernel
theorem d6_37 : decode prog_14_method_10_code 37 = .ok (.iload 4, 2) := by decide +kernel
theorem d6_39 : decode prog_14_method_10_code 39 = .ok (.istore_n 3, 1) := by decide +kernel
set_option maxRecDepth 65536 in
set_option maxHeartbeats 40000000 in
theorem loop6 {p : Program} {l : Launch} {e : Env} {s : State} {m : MethodId} {args : Array Value} {below : List Frame} {meth : Method} {c : Code} {Z : State} {a0 : Array Value} {h0 : Heap} (a1 a2 : Addr) (s1 : Slot) (n mm : Nat) (hn : n ≤ 7) (hm : mm ≤ 3) (f g : Nat → Int32) (cl1 cl2 : Cell) (n0 : Nat)
    (hx : p.tables.exec = Jvm.exec) (hZ : Z.Warmed39 s.vm) (hw : ∀ d ∈ tables_1, d.before a0 Z = true) (hby : c.code = prog_14_method_10_code) (hml : c.maxLocals = 5) (hown : s.vm.findClass "com/example/orbweaver/orbweaver/store/GzipMembers" = some m.cls) (Z0 : n0 ≤ h0.size) (Ar1 : Arr Z h0 a1 cl1 .byte) (S1 : cl1.slots.size = n) (H1 : ∀ i, i < cl1.slots.size → cl1.slots[i]? = some (.int (f i))) (Ar2 : Arr Z h0 a2 cl2 .byte) (S2 : cl2.slots.size = mm) (H2 : ∀ i, i < cl2.slots.size → cl2.slots[i]? = some (.int (g i))) :
    ∀ (k i : Nat) (T0 : State) (locs : List Loc), i ≤ 9 → n + 1 - (i + mm) = k → Stand p l e ({ frames := 2, cells := 0, slots := 0, locals := 38 } : Room) s m args below meth c T0 locs 0 0 → T0.heap = h0 → Fr n0 locs → ∃ (T' : State) (locs' : List Loc) (z : Int32), Stand p l e ({ frames := 2, cells := 0, slots := 0, locals := 38 } : Room) s m args below meth c T' locs' 0 0 ∧ T'.heap = h0 ∧ Fr n0 locs' ∧ ∀ t, Steps p.tables e below (T'.setTop (mkF m 46 #[.val (.ref a1), s1, .val (.ref a2), .val (.int (own_ix f g mm k i)), .val (.int z)] [])) t → Steps p.tables e below (T0.setTop (mkF m 5 #[.val (.ref a1), s1, .val (.ref a2), .val (.int (-1 : Int32)), .val (.int (Int32.ofNat i))] [])) t := by
  have S1' : cl1.slots.size = (Int32.ofNat n).toNatClampNeg := by rw [own_n32 (by omega)]; exact S1
  have M1' : ¬ Int32.ofNat n < 0 := own_neg (by omega)
  have S2' : cl2.slots.size = (Int32.ofNat mm).toNatClampNeg := by rw [own_n32 (by omega)]; exact S2
  have M2' : ¬ Int32.ofNat mm < 0 := own_neg (by omega)
  intro k
  induction k with
  | zero =>
    intro i T0 locs hi hk X0 e0 N0
    have pre0 : ∀ t, Steps p.tables e below (T0.setTop (mkF m 5 #[.val (.ref a1), s1, .val (.ref a2), .val (.int (-1 : Int32)), .val (.int (Int32.ofNat i))] [])) t → Steps p.tables e below (T0.setTop (mkF m 5 #[.val (.ref a1), s1, .val (.ref a2), .val (.int (-1 : Int32)), .val (.int (Int32.ofNat i))] [])) t := fun t k => k
    have q124 : ∀ t, Steps p.tables e below (T0.setTop (mkF m 11 #[.val (.ref a1), s1, .val (.ref a2), .val (.int (-1 : Int32)), .val (.int (Int32.ofNat i))] [(.ref a1), (.int ((Int32.ofNat i) + (Int32.ofNat mm)))])) t → Steps p.tables e below (T0.setTop (mkF m 5 #[.val (.ref a1), s1, .val (.ref a2), .val (.int (-1 : Int32)), .val (.int (Int32.ofNat i))] [])) t := fun t k => pre0 t (by
        show Steps p.tables e below (T0.setTop (mkF m 5 #[.val (.ref a1), s1, .val (.ref a2), .val (.int (-1 : Int32)), .val (.int (Int32.ofNat i))] [])) _
        refine XS.iload X0.here hx rfl (hb hby d6_5) rfl ?_
        show Steps p.tables e below (T0.setTop (mkF m 7 #[.val (.ref a1), s1, .val (.ref a2), .val (.int (-1 : Int32)), .val (.int (Int32.ofNat i))] [(.int (Int32.ofNat i))])) _
        refine XS.aloadN X0.here hx rfl (hb hby d6_7) rfl rfl ?_
        show Steps p.tables e below (T0.setTop (mkF m 8 #[.val (.ref a1), s1, .val (.ref a2), .val (.int (-1 : Int32)), .val (.int (Int32.ofNat i))] [(.ref a2), (.int (Int32.ofNat i))])) _
        refine X0.arraylength hx (cell := cl2) (by rw [e0]; exact Ar2.1) (State.isArrayOf_alike hZ.alike Ar2.2.1) (g := (mkF m 8 #[.val (.ref a1), s1, .val (.ref a2), .val (.int (-1 : Int32)), .val (.int (Int32.ofNat i))] [(.ref a2), (.int (Int32.ofNat i))])) rfl (rest := [(.int (Int32.ofNat i))]) rfl (hb hby d6_8) _ ?_
        rw [len_of S2' M2']
        show Steps p.tables e below (T0.setTop (mkF m 9 #[.val (.ref a1), s1, .val (.ref a2), .val (.int (-1 : Int32)), .val (.int (Int32.ofNat i))] [(.int (Int32.ofNat mm)), (.int (Int32.ofNat i))])) _
        refine XS.iadd X0.here hx rfl (hb hby d6_9) rfl ?_
        show Steps p.tables e below (T0.setTop (mkF m 10 #[.val (.ref a1), s1, .val (.ref a2), .val (.int (-1 : Int32)), .val (.int (Int32.ofNat i))] [(.int ((Int32.ofNat i) + (Int32.ofNat mm)))])) _
        refine XS.aloadN X0.here hx rfl (hb hby d6_10) rfl rfl ?_
        show Steps p.tables e below (T0.setTop (mkF m 11 #[.val (.ref a1), s1, .val (.ref a2), .val (.int (-1 : Int32)), .val (.int (Int32.ofNat i))] [(.ref a1), (.int ((Int32.ofNat i) + (Int32.ofNat mm)))])) _
        exact k)
    have q125 : ∀ t, Steps p.tables e below (T0.setTop (mkF m 11 #[.val (.ref a1), s1, .val (.ref a2), .val (.int (-1 : Int32)), .val (.int (Int32.ofNat i))] [(.ref a1), (.int (Int32.ofNat (i + mm)))])) t → Steps p.tables e below (T0.setTop (mkF m 5 #[.val (.ref a1), s1, .val (.ref a2), .val (.int (-1 : Int32)), .val (.int (Int32.ofNat i))] [])) t := fun t k => q124 t (by rw [show ((Int32.ofNat i) + (Int32.ofNat mm)) = (Int32.ofNat (i + mm)) from (own_add i mm).symm]; exact k)
    have q126 : ∀ t, Steps p.tables e below (T0.setTop (mkF m 46 #[.val (.ref a1), s1, .val (.ref a2), .val (.int (-1 : Int32)), .val (.int (Int32.ofNat i))] [])) t → Steps p.tables e below (T0.setTop (mkF m 5 #[.val (.ref a1), s1, .val (.ref a2), .val (.int (-1 : Int32)), .val (.int (Int32.ofNat i))] [])) t := fun t k => q125 t (by
        show Steps p.tables e below (T0.setTop (mkF m 11 #[.val (.ref a1), s1, .val (.ref a2), .val (.int (-1 : Int32)), .val (.int (Int32.ofNat i))] [(.ref a1), (.int (Int32.ofNat (i + mm)))])) _
        refine X0.arraylength hx (cell := cl1) (by rw [e0]; exact Ar1.1) (State.isArrayOf_alike hZ.alike Ar1.2.1) (g := (mkF m 11 #[.val (.ref a1), s1, .val (.ref a2), .val (.int (-1 : Int32)), .val (.int (Int32.ofNat i))] [(.ref a1), (.int (Int32.ofNat (i + mm)))])) rfl (rest := [(.int (Int32.ofNat (i + mm)))]) rfl (hb hby d6_11) _ ?_
        rw [len_of S1' M1']
        show Steps p.tables e below (T0.setTop (mkF m 12 #[.val (.ref a1), s1, .val (.ref a2), .val (.int (-1 : Int32)), .val (.int (Int32.ofNat i))] [(.int (Int32.ofNat n)), (.int (Int32.ofNat (i + mm)))])) _
        refine XS.icmpYes X0.here hx rfl (pc0 := 12) (pc' := 46) rfl (hb hby d6_12) rfl (XT.ii_gt_t ((own_ltn (by omega) (by omega)).mpr (by omega) : (Int32.ofNat n) < (Int32.ofNat (i + mm)))) (by decide) (by decide) ?_
        show Steps p.tables e below (T0.setTop (mkF m 46 #[.val (.ref a1), s1, .val (.ref a2), .val (.int (-1 : Int32)), .val (.int (Int32.ofNat i))] [])) _
        exact k)
    exact ⟨_, _, _, X0, e0, N0, q126⟩
  | succ k ih =>
    intro i T0 locs hi hk X0 e0 N0
    have pre0 : ∀ t, Steps p.tables e below (T0.setTop (mkF m 5 #[.val (.ref a1), s1, .val (.ref a2), .val (.int (-1 : Int32)), .val (.int (Int32.ofNat i))] [])) t → Steps p.tables e below (T0.setTop (mkF m 5 #[.val (.ref a1), s1, .val (.ref a2), .val (.int (-1 : Int32)), .val (.int (Int32.ofNat i))] [])) t := fun t k => k
    have q127 : ∀ t, Steps p.tables e below (T0.setTop (mkF m 11 #[.val (.ref a1), s1, .val (.ref a2), .val (.int (-1 : Int32)), .val (.int (Int32.ofNat i))] [(.ref a1), (.int ((Int32.ofNat i) + (Int32.ofNat mm)))])) t → Steps p.tables e below (T0.setTop (mkF m 5 #[.val (.ref a1), s1, .val (.ref a2), .val (.int (-1 : Int32)), .val (.int (Int32.ofNat i))] [])) t := fun t k => pre0 t (by
        show Steps p.tables e below (T0.setTop (mkF m 5 #[.val (.ref a1), s1, .val (.ref a2), .val (.int (-1 : Int32)), .val (.int (Int32.ofNat i))] [])) _
        refine XS.iload X0.here hx rfl (hb hby d6_5) rfl ?_
        show Steps p.tables e below (T0.setTop (mkF m 7 #[.val (.ref a1), s1, .val (.ref a2), .val (.int (-1 : Int32)), .val (.int (Int32.ofNat i))] [(.int (Int32.ofNat i))])) _
        refine XS.aloadN X0.here hx rfl (hb hby d6_7) rfl rfl ?_
        show Steps p.tables e below (T0.setTop (mkF m 8 #[.val (.ref a1), s1, .val (.ref a2), .val (.int (-1 : Int32)), .val (.int (Int32.ofNat i))] [(.ref a2), (.int (Int32.ofNat i))])) _
        refine X0.arraylength hx (cell := cl2) (by rw [e0]; exact Ar2.1) (State.isArrayOf_alike hZ.alike Ar2.2.1) (g := (mkF m 8 #[.val (.ref a1), s1, .val (.ref a2), .val (.int (-1 : Int32)), .val (.int (Int32.ofNat i))] [(.ref a2), (.int (Int32.ofNat i))])) rfl (rest := [(.int (Int32.ofNat i))]) rfl (hb hby d6_8) _ ?_
        rw [len_of S2' M2']
        show Steps p.tables e below (T0.setTop (mkF m 9 #[.val (.ref a1), s1, .val (.ref a2), .val (.int (-1 : Int32)), .val (.int (Int32.ofNat i))] [(.int (Int32.ofNat mm)), (.int (Int32.ofNat i))])) _
        refine XS.iadd X0.here hx rfl (hb hby d6_9) rfl ?_
        show Steps p.tables e below (T0.setTop (mkF m 10 #[.val (.ref a1), s1, .val (.ref a2), .val (.int (-1 : Int32)), .val (.int (Int32.ofNat i))] [(.int ((Int32.ofNat i) + (Int32.ofNat mm)))])) _
        refine XS.aloadN X0.here hx rfl (hb hby d6_10) rfl rfl ?_
        show Steps p.tables e below (T0.setTop (mkF m 11 #[.val (.ref a1), s1, .val (.ref a2), .val (.int (-1 : Int32)), .val (.int (Int32.ofNat i))] [(.ref a1), (.int ((Int32.ofNat i) + (Int32.ofNat mm)))])) _
        exact k)
    have q128 : ∀ t, Steps p.tables e below (T0.setTop (mkF m 11 #[.val (.ref a1), s1, .val (.ref a2), .val (.int (-1 : Int32)), .val (.int (Int32.ofNat i))] [(.ref a1), (.int (Int32.ofNat (i + mm)))])) t → Steps p.tables e below (T0.setTop (mkF m 5 #[.val (.ref a1), s1, .val (.ref a2), .val (.int (-1 : Int32)), .val (.int (Int32.ofNat i))] [])) t := fun t k => q127 t (by rw [show ((Int32.ofNat i) + (Int32.ofNat mm)) = (Int32.ofNat (i + mm)) from (own_add i mm).symm]; exact k)
    have q129 : ∀ t, Steps p.tables e below (T0.setTop (mkF m 30 #[.val (.ref a1), s1, .val (.ref a2), .val (.int (-1 : Int32)), .val (.int (Int32.ofNat i))] [(.ref a2), (.int (0 : Int32)), (.ref a2), (.int ((Int32.ofNat i) + (Int32.ofNat mm))), (.int (Int32.ofNat i)), (.ref a1)])) t → Steps p.tables e below (T0.setTop (mkF m 5 #[.val (.ref a1), s1, .val (.ref a2), .val (.int (-1 : Int32)), .val (.int (Int32.ofNat i))] [])) t := fun t k => q128 t (by
        show Steps p.tables e below (T0.setTop (mkF m 11 #[.val (.ref a1), s1, .val (.ref a2), .val (.int (-1 : Int32)), .val (.int (Int32.ofNat i))] [(.ref a1), (.int (Int32.ofNat (i + mm)))])) _
        refine X0.arraylength hx (cell := cl1) (by rw [e0]; exact Ar1.1) (State.isArrayOf_alike hZ.alike Ar1.2.1) (g := (mkF m 11 #[.val (.ref a1), s1, .val (.ref a2), .val (.int (-1 : Int32)), .val (.int (Int32.ofNat i))] [(.ref a1), (.int (Int32.ofNat (i + mm)))])) rfl (rest := [(.int (Int32.ofNat (i + mm)))]) rfl (hb hby d6_11) _ ?_
        rw [len_of S1' M1']
        show Steps p.tables e below (T0.setTop (mkF m 12 #[.val (.ref a1), s1, .val (.ref a2), .val (.int (-1 : Int32)), .val (.int (Int32.ofNat i))] [(.int (Int32.ofNat n)), (.int (Int32.ofNat (i + mm)))])) _
        refine XS.icmpNo X0.here hx rfl (hb hby d6_12) rfl (XT.ii_gt_f (fun y => absurd ((own_ltn (by omega) (by omega)).mp y) (by omega) : ¬ ((Int32.ofNat n) < (Int32.ofNat (i + mm))))) ?_
        show Steps p.tables e below (T0.setTop (mkF m 15 #[.val (.ref a1), s1, .val (.ref a2), .val (.int (-1 : Int32)), .val (.int (Int32.ofNat i))] [])) _
        refine XS.iloadN X0.here hx rfl (hb hby d6_15) rfl ?_
        show Steps p.tables e below (T0.setTop (mkF m 16 #[.val (.ref a1), s1, .val (.ref a2), .val (.int (-1 : Int32)), .val (.int (Int32.ofNat i))] [(.int (-1 : Int32))])) _
        refine XS.ifNo X0.here hx rfl (hb hby d6_16) rfl (XT.i0_ge_f (by decide : (-1 : Int32) < (0 : Int32))) ?_
        show Steps p.tables e below (T0.setTop (mkF m 19 #[.val (.ref a1), s1, .val (.ref a2), .val (.int (-1 : Int32)), .val (.int (Int32.ofNat i))] [])) _
        refine XS.aloadN X0.here hx rfl (hb hby d6_19) rfl rfl ?_
        show Steps p.tables e below (T0.setTop (mkF m 20 #[.val (.ref a1), s1, .val (.ref a2), .val (.int (-1 : Int32)), .val (.int (Int32.ofNat i))] [(.ref a1)])) _
        refine XS.iload X0.here hx rfl (hb hby d6_20) rfl ?_
        show Steps p.tables e below (T0.setTop (mkF m 22 #[.val (.ref a1), s1, .val (.ref a2), .val (.int (-1 : Int32)), .val (.int (Int32.ofNat i))] [(.int (Int32.ofNat i)), (.ref a1)])) _
        refine XS.iload X0.here hx rfl (hb hby d6_22) rfl ?_
        show Steps p.tables e below (T0.setTop (mkF m 24 #[.val (.ref a1), s1, .val (.ref a2), .val (.int (-1 : Int32)), .val (.int (Int32.ofNat i))] [(.int (Int32.ofNat i)), (.int (Int32.ofNat i)), (.ref a1)])) _
        refine XS.aloadN X0.here hx rfl (hb hby d6_24) rfl rfl ?_
        show Steps p.tables e below (T0.setTop (mkF m 25 #[.val (.ref a1), s1, .val (.ref a2), .val (.int (-1 : Int32)), .val (.int (Int32.ofNat i))] [(.ref a2), (.int (Int32.ofNat i)), (.int (Int32.ofNat i)), (.ref a1)])) _
        refine X0.arraylength hx (cell := cl2) (by rw [e0]; exact Ar2.1) (State.isArrayOf_alike hZ.alike Ar2.2.1) (g := (mkF m 25 #[.val (.ref a1), s1, .val (.ref a2), .val (.int (-1 : Int32)), .val (.int (Int32.ofNat i))] [(.ref a2), (.int (Int32.ofNat i)), (.int (Int32.ofNat i)), (.ref a1)])) rfl (rest := [(.int (Int32.ofNat i)), (.int (Int32.ofNat i)), (.ref a1)]) rfl (hb hby d6_25) _ ?_
        rw [len_of S2' M2']
        show Steps p.tables e below (T0.setTop (mkF m 26 #[.val (.ref a1), s1, .val (.ref a2), .val (.int (-1 : Int32)), .val (.int (Int32.ofNat i))] [(.int (Int32.ofNat mm)), (.int (Int32.ofNat i)), (.int (Int32.ofNat i)), (.ref a1)])) _
        refine XS.iadd X0.here hx rfl (hb hby d6_26) rfl ?_
        show Steps p.tables e below (T0.setTop (mkF m 27 #[.val (.ref a1), s1, .val (.ref a2), .val (.int (-1 : Int32)), .val (.int (Int32.ofNat i))] [(.int ((Int32.ofNat i) + (Int32.ofNat mm))), (.int (Int32.ofNat i)), (.ref a1)])) _
        refine XS.aloadN X0.here hx rfl (hb hby d6_27) rfl rfl ?_
        show Steps p.tables e below (T0.setTop (mkF m 28 #[.val (.ref a1), s1, .val (.ref a2), .val (.int (-1 : Int32)), .val (.int (Int32.ofNat i))] [(.ref a2), (.int ((Int32.ofNat i) + (Int32.ofNat mm))), (.int (Int32.ofNat i)), (.ref a1)])) _
        refine XS.iconst X0.here hx rfl (hb hby d6_28) ?_
        show Steps p.tables e below (T0.setTop (mkF m 29 #[.val (.ref a1), s1, .val (.ref a2), .val (.int (-1 : Int32)), .val (.int (Int32.ofNat i))] [(.int (0 : Int32)), (.ref a2), (.int ((Int32.ofNat i) + (Int32.ofNat mm))), (.int (Int32.ofNat i)), (.ref a1)])) _
        refine XS.aloadN X0.here hx rfl (hb hby d6_29) rfl rfl ?_
        show Steps p.tables e below (T0.setTop (mkF m 30 #[.val (.ref a1), s1, .val (.ref a2), .val (.int (-1 : Int32)), .val (.int (Int32.ofNat i))] [(.ref a2), (.int (0 : Int32)), (.ref a2), (.int ((Int32.ofNat i) + (Int32.ofNat mm))), (.int (Int32.ofNat i)), (.ref a1)])) _
        exact k)
    have q130 : ∀ t, Steps p.tables e below (T0.setTop (mkF m 30 #[.val (.ref a1), s1, .val (.ref a2), .val (.int (-1 : Int32)), .val (.int (Int32.ofNat i))] [(.ref a2), (.int (0 : Int32)), (.ref a2), (.int (Int32.ofNat (i + mm))), (.int (Int32.ofNat i)), (.ref a1)])) t → Steps p.tables e below (T0.setTop (mkF m 5 #[.val (.ref a1), s1, .val (.ref a2), .val (.int (-1 : Int32)), .val (.int (Int32.ofNat i))] [])) t := fun t k => q129 t (by rw [show ((Int32.ofNat i) + (Int32.ofNat mm)) = (Int32.ofNat (i + mm)) from (own_add i mm).symm]; exact k)
    have q131 : ∀ t, Steps p.tables e below (T0.setTop (mkF m 31 #[.val (.ref a1), s1, .val (.ref a2), .val (.int (-1 : Int32)), .val (.int (Int32.ofNat i))] [(.int (Int32.ofNat mm)), (.int (0 : Int32)), (.ref a2), (.int (Int32.ofNat (i + mm))), (.int (Int32.ofNat i)), (.ref a1)])) t → Steps p.tables e below (T0.setTop (mkF m 5 #[.val (.ref a1), s1, .val (.ref a2), .val (.int (-1 : Int32)), .val (.int (Int32.ofNat i))] [])) t := fun t k => q130 t (by
        show Steps p.tables e below (T0.setTop (mkF m 30 #[.val (.ref a1), s1, .val (.ref a2), .val (.int (-1 : Int32)), .val (.int (Int32.ofNat i))] [(.ref a2), (.int (0 : Int32)), (.ref a2), (.int (Int32.ofNat (i + mm))), (.int (Int32.ofNat i)), (.ref a1)])) _
        refine X0.arraylength hx (cell := cl2) (by rw [e0]; exact Ar2.1) (State.isArrayOf_alike hZ.alike Ar2.2.1) (g := (mkF m 30 #[.val (.ref a1), s1, .val (.ref a2), .val (.int (-1 : Int32)), .val (.int (Int32.ofNat i))] [(.ref a2), (.int (0 : Int32)), (.ref a2), (.int (Int32.ofNat (i + mm))), (.int (Int32.ofNat i)), (.ref a1)])) rfl (rest := [(.int (0 : Int32)), (.ref a2), (.int (Int32.ofNat (i + mm))), (.int (Int32.ofNat i)), (.ref a1)]) rfl (hb hby d6_30) _ ?_
        rw [len_of S2' M2']
        show Steps p.tables e below (T0.setTop (mkF m 31 #[.val (.ref a1), s1, .val (.ref a2), .val (.int (-1 : Int32)), .val (.int (Int32.ofNat i))] [(.int (Int32.ofNat mm)), (.int (0 : Int32)), (.ref a2), (.int (Int32.ofNat (i + mm))), (.int (Int32.ofNat i)), (.ref a1)])) _
        exact k)
    obtain ⟨_, _, ⟨T132, L132, kk132, nn132⟩, -, X132, ⟨Lc132, hQ132, l132, y132, z132⟩, st132⟩ := Jvm.LawKit.callS X0 hx (y := (⟨"java/util/Arrays", "equals", "([BII[BII)Z"⟩ : MethodName)) hown (mvT hZ (hw _ (List.mem_of_getElem? (i := 13) rfl))) (mvT hZ (hw _ (List.mem_of_getElem? (i := 14) rfl))) (mvT hZ (hw _ (List.mem_of_getElem? (i := 15) rfl))) (mvT hZ (hw _ (List.mem_of_getElem? (i := 16) rfl))) (by decide) (backOf (W := 0) (rm4 l Z a0 hw [] a1 a2 n mm i hn hm f g cl1 cl2 h0 n0 Z0 (by omega) Ar1 S1 H1 Ar2 S2 H2) hZ (hw _ (List.mem_of_getElem? (i := 16) rfl)) (hw _ (List.mem_of_getElem? (i := 15) rfl)) (by decide) (by decide)) (g := (mkF m 31 #[.val (.ref a1), s1, .val (.ref a2), .val (.int (-1 : Int32)), .val (.int (Int32.ofNat i))] [(.int (Int32.ofNat mm)), (.int (0 : Int32)), (.ref a2), (.int (Int32.ofNat (i + mm))), (.int (Int32.ofNat i)), (.ref a1)])) rfl (by rw [hml]; rfl) (argsL := [(.ref a1), (.int (Int32.ofNat i)), (.int (Int32.ofNat (i + mm))), (.ref a2), (.int (0 : Int32)), (.int (Int32.ofNat mm))]) (rest := []) (lenOf pd___BII_BII_Z rfl) rfl (by show 2 * 0 + _ ≤ _; exact Nat.le_of_eq rfl) (hb hby d6_31) (fun _ _ => ⟨rfl, e0, (by decide : 0 + 0 ≤ _), (by decide : 0 + 0 ≤ _)⟩)
    dsimp only [Pt.U, Pt.locs, Pt.cells, Pt.slots] at X132 l132 y132 z132 st132 hQ132
    subst l132 y132 z132
    obtain ⟨rfl, Nq132, e132⟩ := hQ132
    have N132 := Fr.app N0 Nq132
    have q133 : ∀ t, Steps p.tables e below (T132.setTop (mkF m 34 #[.val (.ref a1), s1, .val (.ref a2), .val (.int (-1 : Int32)), .val (.int (Int32.ofNat i))] [(.int (own_eqv f g i mm))])) t → Steps p.tables e below (T0.setTop (mkF m 5 #[.val (.ref a1), s1, .val (.ref a2), .val (.int (-1 : Int32)), .val (.int (Int32.ofNat i))] [])) t := fun t k => q131 t (st132 t k)
    by_cases ke : (own_eqv f g i mm) = (0 : Int32)
    · skip
      have q134 : ∀ t, Steps p.tables e below (T132.setTop (mkF m 5 #[.val (.ref a1), s1, .val (.ref a2), .val (.int (-1 : Int32)), .val (.int ((Int32.ofNat i) + (1 : Int32)))] [])) t → Steps p.tables e below (T0.setTop (mkF m 5 #[.val (.ref a1), s1, .val (.ref a2), .val (.int (-1 : Int32)), .val (.int (Int32.ofNat i))] [])) t := fun t k => q133 t (by
          show Steps p.tables e below (T132.setTop (mkF m 34 #[.val (.ref a1), s1, .val (.ref a2), .val (.int (-1 : Int32)), .val (.int (Int32.ofNat i))] [(.int (own_eqv f g i mm))])) _
          refine XS.ifYes X132.here hx rfl (pc0 := 34) (pc' := 40) rfl (hb hby d6_34) rfl (XT.i0_eq_t (ke : (own_eqv f g i mm) = (0 : Int32))) (by decide) (by decide) ?_
          show Steps p.tables e below (T132.setTop (mkF m 40 #[.val (.ref a1), s1, .val (.ref a2), .val (.int (-1 : Int32)), .val (.int (Int32.ofNat i))] [])) _
          refine XS.iinc X132.here hx rfl (hb hby d6_40) rfl (l' := #[.val (.ref a1), s1, .val (.ref a2), .val (.int (-1 : Int32)), .val (.int ((Int32.ofNat i) + (1 : Int32)))]) rfl ?_
          show Steps p.tables e below (T132.setTop (mkF m 43 #[.val (.ref a1), s1, .val (.ref a2), .val (.int (-1 : Int32)), .val (.int ((Int32.ofNat i) + (1 : Int32)))] [])) _
          refine XS.goto X132.here hx rfl (pc0 := 43) (pc' := 5) rfl (hb hby d6_43) (by decide) (by decide) ?_
          show Steps p.tables e below (T132.setTop (mkF m 5 #[.val (.ref a1), s1, .val (.ref a2), .val (.int (-1 : Int32)), .val (.int ((Int32.ofNat i) + (1 : Int32)))] [])) _
          exact k)
      have q135 : ∀ t, Steps p.tables e below (T132.setTop (mkF m 5 #[.val (.ref a1), s1, .val (.ref a2), .val (.int (-1 : Int32)), .val (.int (Int32.ofNat (i + 1)))] [])) t → Steps p.tables e below (T0.setTop (mkF m 5 #[.val (.ref a1), s1, .val (.ref a2), .val (.int (-1 : Int32)), .val (.int (Int32.ofNat i))] [])) t := fun t k => q134 t (by rw [show ((Int32.ofNat i) + (1 : Int32)) = (Int32.ofNat (i + 1)) from (own_one i).symm]; exact k)
      rw [own_ixs, if_pos ke]
      obtain ⟨T', L', z, X', e', N', st⟩ := ih (i + 1) _ _ (by omega) (by omega) X132 e132 N132
      exact ⟨T', L', z, X', e', N', fun t k => q135 t (st t k)⟩
    · skip
      rw [own_ixs, if_neg ke]
      have q136 : ∀ t, Steps p.tables e below (T132.setTop (mkF m 12 #[.val (.ref a1), s1, .val (.ref a2), .val (.int (Int32.ofNat i)), .val (.int ((Int32.ofNat i) + (1 : Int32)))] [(.int (Int32.ofNat n)), (.int (((Int32.ofNat i) + (1 : Int32)) + (Int32.ofNat mm)))])) t → Steps p.tables e below (T0.setTop (mkF m 5 #[.val (.ref a1), s1, .val (.ref a2), .val (.int (-1 : Int32)), .val (.int (Int32.ofNat i))] [])) t := fun t k => q133 t (by
          show Steps p.tables e below (T132.setTop (mkF m 34 #[.val (.ref a1), s1, .val (.ref a2), .val (.int (-1 : Int32)), .val (.int (Int32.ofNat i))] [(.int (own_eqv f g i mm))])) _
          refine XS.ifNo X132.here hx rfl (hb hby d6_34) rfl (XT.i0_eq_f (ke : ¬ ((own_eqv f g i mm) = (0 : Int32)))) ?_
          show Steps p.tables e below (T132.setTop (mkF m 37 #[.val (.ref a1), s1, .val (.ref a2), .val (.int (-1 : Int32)), .val (.int (Int32.ofNat i))] [])) _
          refine XS.iload X132.here hx rfl (hb hby d6_37) rfl ?_
          show Steps p.tables e below (T132.setTop (mkF m 39 #[.val (.ref a1), s1, .val (.ref a2), .val (.int (-1 : Int32)), .val (.int (Int32.ofNat i))] [(.int (Int32.ofNat i))])) _
          refine XS.istoreN X132.here hx rfl (hb hby d6_39) rfl (l' := #[.val (.ref a1), s1, .val (.ref a2), .val (.int (Int32.ofNat i)), .val (.int (Int32.ofNat i))]) rfl ?_
          show Steps p.tables e below (T132.setTop (mkF m 40 #[.val (.ref a1), s1, .val (.ref a2), .val (.int (Int32.ofNat i)), .val (.int (Int32.ofNat i))] [])) _
          refine XS.iinc X132.here hx rfl (hb hby d6_40) rfl (l' := #[.val (.ref a1), s1, .val (.ref a2), .val (.int (Int32.ofNat i)), .val (.int ((Int32.ofNat i) + (1 : Int32)))]) rfl ?_
          show Steps p.tables e below (T132.setTop (mkF m 43 #[.val (.ref a1), s1, .val (.ref a2), .val (.int (Int32.ofNat i)), .val (.int ((Int32.ofNat i) + (1 : Int32)))] [])) _
          refine XS.goto X132.here hx rfl (pc0 := 43) (pc' := 5) rfl (hb hby d6_43) (by decide) (by decide) ?_
          show Steps p.tables e below (T132.setTop (mkF m 5 #[.val (.ref a1), s1, .val (.ref a2), .val (.int (Int32.ofNat i)), .val (.int ((Int32.ofNat i) + (1 : Int32)))] [])) _
          refine XS.iload X132.here hx rfl (hb hby d6_5) rfl ?_
          show Steps p.tables e below (T132.setTop (mkF m 7 #[.val (.ref a1), s1, .val (.ref a2), .val (.int (Int32.ofNat i)), .val (.int ((Int32.ofNat i) + (1 : Int32)))] [(.int ((Int32.ofNat i) + (1 : Int32)))])) _
          refine XS.aloadN X132.here hx rfl (hb hby d6_7) rfl rfl ?_
          show Steps p.tables e below (T132.setTop (mkF m 8 #[.val (.ref a1), s1, .val (.ref a2), .val (.int (Int32.ofNat i)), .val (.int ((Int32.ofNat i) + (1 : Int32)))] [(.ref a2), (.int ((Int32.ofNat i) + (1 : Int32)))])) _
          refine X132.arraylength hx (cell := cl2) (by rw [e132]; exact Ar2.1) (State.isArrayOf_alike hZ.alike Ar2.2.1) (g := (mkF m 8 #[.val (.ref a1), s1, .val (.ref a2), .val (.int (Int32.ofNat i)), .val (.int ((Int32.ofNat i) + (1 : Int32)))] [(.ref a2), (.int ((Int32.ofNat i) + (1 : Int32)))])) rfl (rest := [(.int ((Int32.ofNat i) + (1 : Int32)))]) rfl (hb hby d6_8) _ ?_
          rw [len_of S2' M2']
          show Steps p.tables e below (T132.setTop (mkF m 9 #[.val (.ref a1), s1, .val (.ref a2), .val (.int (Int32.ofNat i)), .val (.int ((Int32.ofNat i) + (1 : Int32)))] [(.int (Int32.ofNat mm)), (.int ((Int32.ofNat i) + (1 : Int32)))])) _
          refine XS.iadd X132.here hx rfl (hb hby d6_9) rfl ?_
          show Steps p.tables e below (T132.setTop (mkF m 10 #[.val (.ref a1), s1, .val (.ref a2), .val (.int (Int32.ofNat i)), .val (.int ((Int32.ofNat i) + (1 : Int32)))] [(.int (((Int32.ofNat i) + (1 : Int32)) + (Int32.ofNat mm)))])) _
          refine XS.aloadN X132.here hx rfl (hb hby d6_10) rfl rfl ?_
          show Steps p.tables e below (T132.setTop (mkF m 11 #[.val (.ref a1), s1, .val (.ref a2), .val (.int (Int32.ofNat i)), .val (.int ((Int32.ofNat i) + (1 : Int32)))] [(.ref a1), (.int (((Int32.ofNat i) + (1 : Int32)) + (Int32.ofNat mm)))])) _
          refine X132.arraylength hx (cell := cl1) (by rw [e132]; exact Ar1.1) (State.isArrayOf_alike hZ.alike Ar1.2.1) (g := (mkF m 11 #[.val (.ref a1), s1, .val (.ref a2), .val (.int (Int32.ofNat i)), .val (.int ((Int32.ofNat i) + (1 : Int32)))] [(.ref a1), (.int (((Int32.ofNat i) + (1 : Int32)) + (Int32.ofNat mm)))])) rfl (rest := [(.int (((Int32.ofNat i) + (1 : Int32)) + (Int32.ofNat mm)))]) rfl (hb hby d6_11) _ ?_
          rw [len_of S1' M1']
          show Steps p.tables e below (T132.setTop (mkF m 12 #[.val (.ref a1), s1, .val (.ref a2), .val (.int (Int32.ofNat i)), .val (.int ((Int32.ofNat i) + (1 : Int32)))] [(.int (Int32.ofNat n)), (.int (((Int32.ofNat i) + (1 : Int32)) + (Int32.ofNat mm)))])) _
          exact k)
      by_cases k137 : (Int32.ofNat n) < (((Int32.ofNat i) + (1 : Int32)) + (Int32.ofNat mm))
      · skip
        have q138 : ∀ t, Steps p.tables e below (T132.setTop (mkF m 46 #[.val (.ref a1), s1, .val (.ref a2), .val (.int (Int32.ofNat i)), .val (.int ((Int32.ofNat i) + (1 : Int32)))] [])) t → Steps p.tables e below (T0.setTop (mkF m 5 #[.val (.ref a1), s1, .val (.ref a2), .val (.int (-1 : Int32)), .val (.int (Int32.ofNat i))] [])) t := fun t k => q136 t (by
            show Steps p.tables e below (T132.setTop (mkF m 12 #[.val (.ref a1), s1, .val (.ref a2), .val (.int (Int32.ofNat i)), .val (.int ((Int32.ofNat i) + (1 : Int32)))] [(.int (Int32.ofNat n)), (.int (((Int32.ofNat i) + (1 : Int32)) + (Int32.ofNat mm)))])) _
            refine XS.icmpYes X132.here hx rfl (pc0 := 12) (pc' := 46) rfl (hb hby d6_12) rfl (XT.ii_gt_t (k137 : (Int32.ofNat n) < (((Int32.ofNat i) + (1 : Int32)) + (Int32.ofNat mm)))) (by decide) (by decide) ?_
            show Steps p.tables e below (T132.setTop (mkF m 46 #[.val (.ref a1), s1, .val (.ref a2), .val (.int (Int32.ofNat i)), .val (.int ((Int32.ofNat i) + (1 : Int32)))] [])) _
            exact k)
        exact ⟨_, _, _, X132, e132, N132, q138⟩
      · skip
        have q139 : ∀ t, Steps p.tables e below (T132.setTop (mkF m 46 #[.val (.ref a1), s1, .val (.ref a2), .val (.int (Int32.ofNat i)), .val (.int ((Int32.ofNat i) + (1 : Int32)))] [])) t → Steps p.tables e below (T0.setTop (mkF m 5 #[.val (.ref a1), s1, .val (.ref a2), .val (.int (-1 : Int32)), .val (.int (Int32.ofNat i))] [])) t := fun t k => q136 t (by
            show Steps p.tables e below (T132.setTop (mkF m 12 #[.val (.ref a1), s1, .val (.ref a2), .val (.int (Int32.ofNat i)), .val (.int ((Int32.ofNat i) + (1 : Int32)))] [(.int (Int32.ofNat n)), (.int (((Int32.ofNat i) + (1 : Int32)) + (Int32.ofNat mm)))])) _
            refine XS.icmpNo X132.here hx rfl (hb hby d6_12) rfl (XT.ii_gt_f (k137 : ¬ ((Int32.ofNat n) < (((Int32.ofNat i) + (1 : Int32)) + (Int32.ofNat mm))))) ?_
            show Steps p.tables e below (T132.setTop (mkF m 15 #[.val (.ref a1), s1, .val (.ref a2), .val (.int (Int32.ofNat i)), .val (.int ((Int32.ofNat i) + (1 : Int32)))] [])) _
            refine XS.iloadN X132.here hx rfl (hb hby d6_15) rfl ?_
            show Steps p.tables e below (T132.setTop (mkF m 16 #[.val (.ref a1), s1, .val (.ref a2), .val (.int (Int32.ofNat i)), .val (.int ((Int32.ofNat i) + (1 : Int32)))] [(.int (Int32.ofNat i))])) _
            refine XS.ifYes X132.here hx rfl (pc0 := 16) (pc' := 46) rfl (hb hby d6_16) rfl (XT.i0_ge_t (own_neg (by omega) : ¬ ((Int32.ofNat i) < (0 : Int32)))) (by decide) (by decide) ?_
            show Steps p.tables e below (T132.setTop (mkF m 46 #[.val (.ref a1), s1, .val (.ref a2), .val (.int (Int32.ofNat i)), .val (.int ((Int32.ofNat i) + (1 : Int32)))] [])) _
            exact k)
        exact ⟨_, _, _, X132, e132, N132, q139⟩
theorem pn_com_example_orbweaver_orbweaver_store_GzipMembers : plainName "com/example/orbweaver/orbweaver/store/GzipMembers" = true := by first | (simp [plainName, overriddenIn]; done) | decide +kernel
theorem ef_6 (m : MethodId) (x0 : Addr) (x1 : Int32) (x2 : Addr) : entryFrame m #[(.ref x0), (.int x1), (.ref x2)] 5 = mkF m 0 #[.val (.ref x0), .val (.int x1), .val (.ref x2), .unset, .unset] [] := by first | (simp [entryFrame, mkF, argsToLocals, Value.category]; done) | rfl
theorem d6_0 : decode prog_14_method_10_code 0 = .ok (.iconst (-1), 1) := by decide +kernel
theorem d6_1 : decode prog_14_method_10_code 1 = .ok (.istore_n 3, 1) := by decide +kernel
theorem d6_2 : decode prog_14_method_10_code 2 = .ok (.iload_n 1, 1) := by decide +kernel
theorem d6_3 : decode prog_14_method_10_code 3 = .ok (.istore 4, 2) := by decide +kernel
theorem d6_46 : decode prog_14_method_10_code 46 = .ok (.iload_n 3, 1) := by decide +kernel
theorem d6_47 : decode prog_14_method_10_code 47 = .ok (.ireturn, 1) := by decide +kernel
set_option maxRecDepth 65536 in
set_option maxHeartbeats 40000000 in
theorem rm6 (l : Launch) (Z : State) (a0 : Array Value) (hw : ∀ d ∈ tables_1, d.before a0 Z = true) (ws : List Jvm.Cond) (a1 a2 : Addr) (n mm i : Nat) (hn : n ≤ 7) (hm : mm ≤ 3) (f g : Nat → Int32) (cl1 cl2 : Cell) (h0 : Heap) (n0 : Nat) (Z0 : n0 ≤ h0.size) (hi9 : i ≤ 9) (Ar1 : Arr Z h0 a1 cl1 .byte) (S1 : cl1.slots.size = n) (H1 : ∀ i, i < cl1.slots.size → cl1.slots[i]? = some (.int (f i))) (Ar2 : Arr Z h0 a2 cl2 .byte) (S2 : cl2.slots.size = mm) (H2 : ∀ i, i < cl2.slots.size → cl2.slots[i]? = some (.int (g i))) :
    MetFree l (⟨"com/example/orbweaver/orbweaver/store/GzipMembers", "indexOf", "([BI[B)I"⟩ : MethodName) (head1 (Jvm.Cond.code (⟨"com/example/orbweaver/orbweaver/store/GzipMembers", "indexOf", "([BI[B)I"⟩ : MethodName) prog_14_method_10_code 5 (some .int) :: ws) ({ frames := 2, cells := 0, slots := 0, locals := 38 } : Room)) (fun a U => a = #[(.ref a1), (.int (Int32.ofNat i)), (.ref a2)] ∧ Z.Warmed39 U.vm ∧ U.heap = h0) (fun _ _ _ _ _ => True) (fun _ U o U' => ∃ v L, o = .returned v ∧ QN (own_ix f g mm (n + 1 - (i + mm)) i) h0 n0 v U'.heap L ∧ FrameEnd U o U' L ({ frames := 2, cells := 0, slots := 0, locals := 38 } : Room).cells ({ frames := 2, cells := 0, slots := 0, locals := 38 } : Room).slots) := by
  refine MetFree.of_bodySF (plainFor_of_name pn_com_example_orbweaver_orbweaver_store_GzipMembers) hisR ?_
  intro p e s m args below meth c s₁ Bd hml0 hP hK
  obtain ⟨rfl, hZ, hh⟩ := hP
  have hx := Bd.exec
  have hby := Bd.bytes
  have hml : c.maxLocals = 5 := hml0
  have hown : s.vm.findClass "com/example/orbweaver/orbweaver/store/GzipMembers" = some m.cls := findClass_of_methodNamed Bd.named
  have hnm := (name_of_methodNamed Bd.named Bd.method).1
  have X0 : Stand p l e ({ frames := 2, cells := 0, slots := 0, locals := 38 } : Room) s m #[(.ref a1), (.int (Int32.ofNat i)), (.ref a2)] below meth c s₁ [] 0 0 := Stand.of_body Bd
  have e0 : s₁.heap = h0 := by rw [← hh, Bd.state]; rfl
  have N0 := Fr.nil n0
  have pre0 : ∀ t, Steps p.tables e below (s₁.setTop (mkF m 0 #[.val (.ref a1), .val (.int (Int32.ofNat i)), .val (.ref a2), .unset, .unset] [])) t → Steps p.tables e below (s₁.setTop (entryFrame m #[(.ref a1), (.int (Int32.ofNat i)), (.ref a2)] 5)) t := fun t k => castTop (ef_6 m a1 (Int32.ofNat i) a2) k
  have S1' : cl1.slots.size = (Int32.ofNat n).toNatClampNeg := by rw [own_n32 (by omega)]; exact S1
  have M1' : ¬ Int32.ofNat n < 0 := own_neg (by omega)
  have q140 : ∀ t, Steps p.tables e below (s₁.setTop (mkF m 5 #[.val (.ref a1), .val (.int (Int32.ofNat i)), .val (.ref a2), .val (.int (-1 : Int32)), .val (.int (Int32.ofNat i))] [])) t → Steps p.tables e below (s₁.setTop (entryFrame m #[(.ref a1), (.int (Int32.ofNat i)), (.ref a2)] 5)) t := fun t k => pre0 t (by
      show Steps p.tables e below (s₁.setTop (mkF m 0 #[.val (.ref a1), .val (.int (Int32.ofNat i)), .val (.ref a2), .unset, .unset] [])) _
      refine XS.iconst X0.here hx rfl (hb hby d6_0) ?_
      show Steps p.tables e below (s₁.setTop (mkF m 1 #[.val (.ref a1), .val (.int (Int32.ofNat i)), .val (.ref a2), .unset, .unset] [(.int (-1 : Int32))])) _
      refine XS.istoreN X0.here hx rfl (hb hby d6_1) rfl (l' := #[.val (.ref a1), .val (.int (Int32.ofNat i)), .val (.ref a2), .val (.int (-1 : Int32)), .unset]) rfl ?_
      show Steps p.tables e below (s₁.setTop (mkF m 2 #[.val (.ref a1), .val (.int (Int32.ofNat i)), .val (.ref a2), .val (.int (-1 : Int32)), .unset] [])) _
      refine XS.iloadN X0.here hx rfl (hb hby d6_2) rfl ?_
      show Steps p.tables e below (s₁.setTop (mkF m 3 #[.val (.ref a1), .val (.int (Int32.ofNat i)), .val (.ref a2), .val (.int (-1 : Int32)), .unset] [(.int (Int32.ofNat i))])) _
      refine XS.istore X0.here hx rfl (hb hby d6_3) rfl (l' := #[.val (.ref a1), .val (.int (Int32.ofNat i)), .val (.ref a2), .val (.int (-1 : Int32)), .val (.int (Int32.ofNat i))]) rfl ?_
      show Steps p.tables e below (s₁.setTop (mkF m 5 #[.val (.ref a1), .val (.int (Int32.ofNat i)), .val (.ref a2), .val (.int (-1 : Int32)), .val (.int (Int32.ofNat i))] [])) _
      exact k)
  obtain ⟨T', L', z, X', e', N', stL⟩ := loop6 a1 a2 (.val (.int (Int32.ofNat i))) n mm hn hm f g cl1 cl2 n0 hx hZ hw hby hml hown Z0 Ar1 S1 H1 Ar2 S2 H2 (n + 1 - (i + mm)) i s₁ [] hi9 rfl X0 e0 N0
  have q141 : ∀ t, Steps p.tables e below (T'.setTop (mkF m 46 #[.val (.ref a1), .val (.int (Int32.ofNat i)), .val (.ref a2), .val (.int (own_ix f g mm (n + 1 - (i + mm)) i)), .val (.int z)] [])) t → Steps p.tables e below (s₁.setTop (entryFrame m #[(.ref a1), (.int (Int32.ofNat i)), (.ref a2)] 5)) t := fun t k => q140 t (stL t k)
  have q142 : ∀ t, Steps p.tables e below (T'.setTop (mkF m 47 #[.val (.ref a1), .val (.int (Int32.ofNat i)), .val (.ref a2), .val (.int (own_ix f g mm (n + 1 - (i + mm)) i)), .val (.int z)] [(.int (own_ix f g mm (n + 1 - (i + mm)) i))])) t → Steps p.tables e below (s₁.setTop (entryFrame m #[(.ref a1), (.int (Int32.ofNat i)), (.ref a2)] 5)) t := fun t k => q141 t (by
      show Steps p.tables e below (T'.setTop (mkF m 46 #[.val (.ref a1), .val (.int (Int32.ofNat i)), .val (.ref a2), .val (.int (own_ix f g mm (n + 1 - (i + mm)) i)), .val (.int z)] [])) _
      refine XS.iloadN X'.here hx rfl (hb hby d6_46) rfl ?_
      show Steps p.tables e below (T'.setTop (mkF m 47 #[.val (.ref a1), .val (.int (Int32.ofNat i)), .val (.ref a2), .val (.int (own_ix f g mm (n + 1 - (i + mm)) i)), .val (.int z)] [(.int (own_ix f g mm (n + 1 - (i + mm)) i))])) _
      exact k)
  obtain ⟨fs, hr, hrun, hended, hW, hsame⟩ := X'.leave (v := some (.int (own_ix f g mm (n + 1 - (i + mm)) i))) (fun h => by rw [Bd.returns] at h; cases h)
  refine ⟨_, _, q142 _ ?_, hrun, hended, _, _, rfl, ?_, ⟨_, rfl⟩, hW, hsame.mono (by decide) (by decide)⟩
  · show Steps p.tables e below (T'.setTop (mkF m 47 #[.val (.ref a1), .val (.int (Int32.ofNat i)), .val (.ref a2), .val (.int (own_ix f g mm (n + 1 - (i + mm)) i)), .val (.int z)] [(.int (own_ix f g mm (n + 1 - (i + mm)) i))])) _
    exact retI X' hx Bd.returns (hb hby d6_47) hr
  · show QN (own_ix f g mm (n + 1 - (i + mm)) i) h0 n0 _ T'.heap _
    exact ⟨rfl, N', e'⟩
theorem pd__IIBB_B : parseMethodDescriptor "(IIBB)B" = some ⟨[.int, .int, .byte, .byte], some .byte⟩ := by decide +kernel
set_option maxRecDepth 65536 in
set_option maxHeartbeats 40000000 in
theorem sb0 {p : Program} {l : Launch} {e : Env} {s : State} {m : MethodId} {args : Array Value} {below : List Frame} {meth : Method} {c : Code} {T0 : State} {locs : List Loc} {Z : State} {a0 : Array Value} {h0 : Heap} (s0 : Slot) (i1 : Int32) (s2 s3 : Slot) (i4 i5 : Int32) (s7 s8 : Slot) (o9 : Addr) (s10 s11 s12 : Slot) (n : Nat) (f : Nat → Int32) (n0 : Nat)
    (X0 : Stand p l e room_1 s m args below meth c T0 locs 1 7) (hx : p.tables.exec = Jvm.exec) (hZ : Z.Warmed39 s.vm) (hw : ∀ d ∈ tables_1, d.before a0 Z = true) (hby : c.code = code) (hml : c.maxLocals = 13) (hown : s.vm.findClass "com/example/orbweaver/orbweaver/store/GzipMembersIndexOfPinLaw" = some m.cls) (e0 : T0.heap = h0) (Z0 : n0 ≤ h0.size) (N0 : Fr n0 locs) (g9 : n0 ≤ o9) (B : Bt Z h0 o9 (Int32.ofNat n) f) :
    ∃ (T' : State) (h' : Heap) (locs' : List Loc) (f' : Nat → Int32), Stand p l e room_1 s m args below meth c T' locs' 1 7 ∧ T'.heap = h' ∧ Fr n0 locs' ∧ n0 ≤ h'.size ∧ Bt Z h' o9 (Int32.ofNat n) f' ∧ ∀ t, Steps p.tables e below (T'.setTop (mkF m 57 #[s0, .val (.int i1), s2, s3, .val (.int i4), .val (.int i5), .val (.int (Int32.ofNat n)), s7, s8, .val (.ref o9), s10, s11, s12] [])) t → Steps p.tables e below (T0.setTop (mkF m 39 #[s0, .val (.int i1), s2, s3, .val (.int i4), .val (.int i5), .val (.int (Int32.ofNat n)), s7, s8, .val (.ref o9), s10, s11, s12] [])) t := by
  have pre0 : ∀ t, Steps p.tables e below (T0.setTop (mkF m 39 #[s0, .val (.int i1), s2, s3, .val (.int i4), .val (.int i5), .val (.int (Int32.ofNat n)), s7, s8, .val (.ref o9), s10, s11, s12] [])) t → Steps p.tables e below (T0.setTop (mkF m 39 #[s0, .val (.int i1), s2, s3, .val (.int i4), .val (.int i5), .val (.int (Int32.ofNat n)), s7, s8, .val (.ref o9), s10, s11, s12] [])) t := fun t k => k
  have q143 : ∀ t, Steps p.tables e below (T0.setTop (mkF m 41 #[s0, .val (.int i1), s2, s3, .val (.int i4), .val (.int i5), .val (.int (Int32.ofNat n)), s7, s8, .val (.ref o9), s10, s11, s12] [(.int (Int32.ofNat n))])) t → Steps p.tables e below (T0.setTop (mkF m 39 #[s0, .val (.int i1), s2, s3, .val (.int i4), .val (.int i5), .val (.int (Int32.ofNat n)), s7, s8, .val (.ref o9), s10, s11, s12] [])) t := fun t k => pre0 t (by
      show Steps p.tables e below (T0.setTop (mkF m 39 #[s0, .val (.int i1), s2, s3, .val (.int i4), .val (.int i5), .val (.int (Int32.ofNat n)), s7, s8, .val (.ref o9), s10, s11, s12] [])) _
      refine XS.iload X0.here hx rfl (hb hby at_39) rfl ?_
      show Steps p.tables e below (T0.setTop (mkF m 41 #[s0, .val (.int i1), s2, s3, .val (.int i4), .val (.int i5), .val (.int (Int32.ofNat n)), s7, s8, .val (.ref o9), s10, s11, s12] [(.int (Int32.ofNat n))])) _
      exact k)
  by_cases kk : (0 : Int32) < (Int32.ofNat n)
  · skip
    have q144 : ∀ t, Steps p.tables e below (T0.setTop (mkF m 53 #[s0, .val (.int i1), s2, s3, .val (.int i4), .val (.int i5), .val (.int (Int32.ofNat n)), s7, s8, .val (.ref o9), s10, s11, s12] [(.int i5), (.int i4), (.int (0 : Int32)), (.int i1), (.int (0 : Int32)), (.ref o9)])) t → Steps p.tables e below (T0.setTop (mkF m 39 #[s0, .val (.int i1), s2, s3, .val (.int i4), .val (.int i5), .val (.int (Int32.ofNat n)), s7, s8, .val (.ref o9), s10, s11, s12] [])) t := fun t k => q143 t (by
        show Steps p.tables e below (T0.setTop (mkF m 41 #[s0, .val (.int i1), s2, s3, .val (.int i4), .val (.int i5), .val (.int (Int32.ofNat n)), s7, s8, .val (.ref o9), s10, s11, s12] [(.int (Int32.ofNat n))])) _
        refine XS.ifNo X0.here hx rfl (hb hby at_41) rfl (XT.i0_le_f (kk : (0 : Int32) < (Int32.ofNat n))) ?_
        show Steps p.tables e below (T0.setTop (mkF m 44 #[s0, .val (.int i1), s2, s3, .val (.int i4), .val (.int i5), .val (.int (Int32.ofNat n)), s7, s8, .val (.ref o9), s10, s11, s12] [])) _
        refine XS.aload X0.here hx rfl (hb hby at_44) rfl rfl ?_
        show Steps p.tables e below (T0.setTop (mkF m 46 #[s0, .val (.int i1), s2, s3, .val (.int i4), .val (.int i5), .val (.int (Int32.ofNat n)), s7, s8, .val (.ref o9), s10, s11, s12] [(.ref o9)])) _
        refine XS.iconst X0.here hx rfl (hb hby at_46) ?_
        show Steps p.tables e below (T0.setTop (mkF m 47 #[s0, .val (.int i1), s2, s3, .val (.int i4), .val (.int i5), .val (.int (Int32.ofNat n)), s7, s8, .val (.ref o9), s10, s11, s12] [(.int (0 : Int32)), (.ref o9)])) _
        refine XS.iloadN X0.here hx rfl (hb hby at_47) rfl ?_
        show Steps p.tables e below (T0.setTop (mkF m 48 #[s0, .val (.int i1), s2, s3, .val (.int i4), .val (.int i5), .val (.int (Int32.ofNat n)), s7, s8, .val (.ref o9), s10, s11, s12] [(.int i1), (.int (0 : Int32)), (.ref o9)])) _
        refine XS.iconst X0.here hx rfl (hb hby at_48) ?_
        show Steps p.tables e below (T0.setTop (mkF m 49 #[s0, .val (.int i1), s2, s3, .val (.int i4), .val (.int i5), .val (.int (Int32.ofNat n)), s7, s8, .val (.ref o9), s10, s11, s12] [(.int (0 : Int32)), (.int i1), (.int (0 : Int32)), (.ref o9)])) _
        refine XS.iload X0.here hx rfl (hb hby at_49) rfl ?_
        show Steps p.tables e below (T0.setTop (mkF m 51 #[s0, .val (.int i1), s2, s3, .val (.int i4), .val (.int i5), .val (.int (Int32.ofNat n)), s7, s8, .val (.ref o9), s10, s11, s12] [(.int i4), (.int (0 : Int32)), (.int i1), (.int (0 : Int32)), (.ref o9)])) _
        refine XS.iload X0.here hx rfl (hb hby at_51) rfl ?_
        show Steps p.tables e below (T0.setTop (mkF m 53 #[s0, .val (.int i1), s2, s3, .val (.int i4), .val (.int i5), .val (.int (Int32.ofNat n)), s7, s8, .val (.ref o9), s10, s11, s12] [(.int i5), (.int i4), (.int (0 : Int32)), (.int i1), (.int (0 : Int32)), (.ref o9)])) _
        exact k)
    obtain ⟨_, _, ⟨T145, L145, kk145, nn145⟩, -, X145, ⟨Lc145, hQ145, l145, y145, z145⟩, st145⟩ := Jvm.LawKit.callS X0 hx (y := (⟨"com/example/orbweaver/orbweaver/store/GzipMembersIndexOfPinLaw", "pick", "(IIBB)B"⟩ : MethodName)) hown (mvT hZ (hw _ (List.mem_of_getElem? (i := 2) rfl))) (mvT hZ (hw _ (List.mem_of_getElem? (i := 3) rfl))) (mvT hZ (hw _ (List.mem_of_getElem? (i := 4) rfl))) (mvT hZ (hw _ (List.mem_of_getElem? (i := 5) rfl))) (by decide) (backOf (W := 2) (rm1 l Z a0 hw [] i1 (0 : Int32) i4 i5 h0 n0 Z0) hZ (hw _ (List.mem_of_getElem? (i := 5) rfl)) (hw _ (List.mem_of_getElem? (i := 4) rfl)) (by decide) (by decide)) (g := (mkF m 53 #[s0, .val (.int i1), s2, s3, .val (.int i4), .val (.int i5), .val (.int (Int32.ofNat n)), s7, s8, .val (.ref o9), s10, s11, s12] [(.int i5), (.int i4), (.int (0 : Int32)), (.int i1), (.int (0 : Int32)), (.ref o9)])) rfl (by rw [hml]; rfl) (argsL := [(.int i1), (.int (0 : Int32)), (.int i4), (.int i5)]) (rest := [(.int (0 : Int32)), (.ref o9)]) (lenOf pd__IIBB_B rfl) rfl (by show 2 * 0 + _ ≤ _; exact Nat.le_of_eq rfl) (hb hby at_53) (fun _ _ => ⟨rfl, e0, (by decide : 1 + 0 ≤ _), (by decide : 7 + 0 ≤ _)⟩)
    dsimp only [Pt.U, Pt.locs, Pt.cells, Pt.slots] at X145 l145 y145 z145 st145 hQ145
    subst l145 y145 z145
    obtain ⟨rfl, Nq145, e145⟩ := hQ145
    have N145 := Fr.app N0 Nq145
    have q146 : ∀ t, Steps p.tables e below (T145.setTop (mkF m 56 #[s0, .val (.int i1), s2, s3, .val (.int i4), .val (.int i5), .val (.int (Int32.ofNat n)), s7, s8, .val (.ref o9), s10, s11, s12] [(.int (own_pk i1 (0 : Int32) i4 i5)), (.int (0 : Int32)), (.ref o9)])) t → Steps p.tables e below (T0.setTop (mkF m 39 #[s0, .val (.int i1), s2, s3, .val (.int i4), .val (.int i5), .val (.int (Int32.ofNat n)), s7, s8, .val (.ref o9), s10, s11, s12] [])) t := fun t k => q144 t (st145 t k)
    obtain ⟨cl, Ar, S, M, H⟩ := B
    obtain ⟨T147, h147, X147, e147, W147, st147⟩ := stB X145 hx hZ e145 (Ar) (j := (0 : Int32)) (inb_of S ⟨by decide, kk⟩) (g := (mkF m 56 #[s0, .val (.int i1), s2, s3, .val (.int i4), .val (.int i5), .val (.int (Int32.ofNat n)), s7, s8, .val (.ref o9), s10, s11, s12] [(.int (own_pk i1 (0 : Int32) i4 i5)), (.int (0 : Int32)), (.ref o9)])) rfl rfl (hb hby at_56)
    have N147 := Fr.snoc X147 N145 (g9)
    have q148 : ∀ t, Steps p.tables e below (T147.setTop (mkF m 57 #[s0, .val (.int i1), s2, s3, .val (.int i4), .val (.int i5), .val (.int (Int32.ofNat n)), s7, s8, .val (.ref o9), s10, s11, s12] [])) t → Steps p.tables e below (T0.setTop (mkF m 39 #[s0, .val (.int i1), s2, s3, .val (.int i4), .val (.int i5), .val (.int (Int32.ofNat n)), s7, s8, .val (.ref o9), s10, s11, s12] [])) t := fun t k => q146 t (st147 t k)
    have Z147 : n0 ≤ h147.size := Nat.le_trans Z0 (Keep.of_wr W147).1
    exact ⟨_, _, _, _, X147, e147, N147, Z147, Bt.set Ar S M H W147, q148⟩
  · skip
    have q149 : ∀ t, Steps p.tables e below (T0.setTop (mkF m 57 #[s0, .val (.int i1), s2, s3, .val (.int i4), .val (.int i5), .val (.int (Int32.ofNat n)), s7, s8, .val (.ref o9), s10, s11, s12] [])) t → Steps p.tables e below (T0.setTop (mkF m 39 #[s0, .val (.int i1), s2, s3, .val (.int i4), .val (.int i5), .val (.int (Int32.ofNat n)), s7, s8, .val (.ref o9), s10, s11, s12] [])) t := fun t k => q143 t (by
        show Steps p.tables e below (T0.setTop (mkF m 41 #[s0, .val (.int i1), s2, s3, .val (.int i4), .val (.int i5), .val (.int (Int32.ofNat n)), s7, s8, .val (.ref o9), s10, s11, s12] [(.int (Int32.ofNat n))])) _
        refine XS.ifYes X0.here hx rfl (pc0 := 41) (pc' := 57) rfl (hb hby at_41) rfl (XT.i0_le_t (kk : ¬ ((0 : Int32) < (Int32.ofNat n)))) (by decide) (by decide) ?_
        show Steps p.tables e below (T0.setTop (mkF m 57 #[s0, .val (.int i1), s2, s3, .val (.int i4), .val (.int i5), .val (.int (Int32.ofNat n)), s7, s8, .val (.ref o9), s10, s11, s12] [])) _
        exact k)
    exact ⟨_, _, _, _, X0, e0, N0, Z0, B, q149⟩
set_option maxRecDepth 65536 in
set_option maxHeartbeats 40000000 in
theorem sb1 {p : Program} {l : Launch} {e : Env} {s : State} {m : MethodId} {args : Array Value} {below : List Frame} {meth : Method} {c : Code} {T0 : State} {locs : List Loc} {Z : State} {a0 : Array Value} {h0 : Heap} (s0 : Slot) (i1 : Int32) (s2 s3 : Slot) (i4 i5 : Int32) (s7 s8 : Slot) (o9 : Addr) (s10 s11 s12 : Slot) (n : Nat) (f : Nat → Int32) (n0 : Nat)
    (X0 : Stand p l e room_1 s m args below meth c T0 locs 1 7) (hx : p.tables.exec = Jvm.exec) (hZ : Z.Warmed39 s.vm) (hw : ∀ d ∈ tables_1, d.before a0 Z = true) (hby : c.code = code) (hml : c.maxLocals = 13) (hown : s.vm.findClass "com/example/orbweaver/orbweaver/store/GzipMembersIndexOfPinLaw" = some m.cls) (e0 : T0.heap = h0) (Z0 : n0 ≤ h0.size) (N0 : Fr n0 locs) (g9 : n0 ≤ o9) (B : Bt Z h0 o9 (Int32.ofNat n) f) :
    ∃ (T' : State) (h' : Heap) (locs' : List Loc) (f' : Nat → Int32), Stand p l e room_1 s m args below meth c T' locs' 1 7 ∧ T'.heap = h' ∧ Fr n0 locs' ∧ n0 ≤ h'.size ∧ Bt Z h' o9 (Int32.ofNat n) f' ∧ ∀ t, Steps p.tables e below (T'.setTop (mkF m 76 #[s0, .val (.int i1), s2, s3, .val (.int i4), .val (.int i5), .val (.int (Int32.ofNat n)), s7, s8, .val (.ref o9), s10, s11, s12] [])) t → Steps p.tables e below (T0.setTop (mkF m 57 #[s0, .val (.int i1), s2, s3, .val (.int i4), .val (.int i5), .val (.int (Int32.ofNat n)), s7, s8, .val (.ref o9), s10, s11, s12] [])) t := by
  have pre0 : ∀ t, Steps p.tables e below (T0.setTop (mkF m 57 #[s0, .val (.int i1), s2, s3, .val (.int i4), .val (.int i5), .val (.int (Int32.ofNat n)), s7, s8, .val (.ref o9), s10, s11, s12] [])) t → Steps p.tables e below (T0.setTop (mkF m 57 #[s0, .val (.int i1), s2, s3, .val (.int i4), .val (.int i5), .val (.int (Int32.ofNat n)), s7, s8, .val (.ref o9), s10, s11, s12] [])) t := fun t k => k
  have q150 : ∀ t, Steps p.tables e below (T0.setTop (mkF m 60 #[s0, .val (.int i1), s2, s3, .val (.int i4), .val (.int i5), .val (.int (Int32.ofNat n)), s7, s8, .val (.ref o9), s10, s11, s12] [(.int (1 : Int32)), (.int (Int32.ofNat n))])) t → Steps p.tables e below (T0.setTop (mkF m 57 #[s0, .val (.int i1), s2, s3, .val (.int i4), .val (.int i5), .val (.int (Int32.ofNat n)), s7, s8, .val (.ref o9), s10, s11, s12] [])) t := fun t k => pre0 t (by
      show Steps p.tables e below (T0.setTop (mkF m 57 #[s0, .val (.int i1), s2, s3, .val (.int i4), .val (.int i5), .val (.int (Int32.ofNat n)), s7, s8, .val (.ref o9), s10, s11, s12] [])) _
      refine XS.iload X0.here hx rfl (hb hby at_57) rfl ?_
      show Steps p.tables e below (T0.setTop (mkF m 59 #[s0, .val (.int i1), s2, s3, .val (.int i4), .val (.int i5), .val (.int (Int32.ofNat n)), s7, s8, .val (.ref o9), s10, s11, s12] [(.int (Int32.ofNat n))])) _
      refine XS.iconst X0.here hx rfl (hb hby at_59) ?_
      show Steps p.tables e below (T0.setTop (mkF m 60 #[s0, .val (.int i1), s2, s3, .val (.int i4), .val (.int i5), .val (.int (Int32.ofNat n)), s7, s8, .val (.ref o9), s10, s11, s12] [(.int (1 : Int32)), (.int (Int32.ofNat n))])) _
      exact k)
  by_cases kk : (1 : Int32) < (Int32.ofNat n)
  · skip
    have q151 : ∀ t, Steps p.tables e below (T0.setTop (mkF m 72 #[s0, .val (.int i1), s2, s3, .val (.int i4), .val (.int i5), .val (.int (Int32.ofNat n)), s7, s8, .val (.ref o9), s10, s11, s12] [(.int i5), (.int i4), (.int (1 : Int32)), (.int i1), (.int (1 : Int32)), (.ref o9)])) t → Steps p.tables e below (T0.setTop (mkF m 57 #[s0, .val (.int i1), s2, s3, .val (.int i4), .val (.int i5), .val (.int (Int32.ofNat n)), s7, s8, .val (.ref o9), s10, s11, s12] [])) t := fun t k => q150 t (by
        show Steps p.tables e below (T0.setTop (mkF m 60 #[s0, .val (.int i1), s2, s3, .val (.int i4), .val (.int i5), .val (.int (Int32.ofNat n)), s7, s8, .val (.ref o9), s10, s11, s12] [(.int (1 : Int32)), (.int (Int32.ofNat n))])) _
        refine XS.icmpNo X0.here hx rfl (hb hby at_60) rfl (XT.ii_le_f (kk : (1 : Int32) < (Int32.ofNat n))) ?_
        show Steps p.tables e below (T0.setTop (mkF m 63 #[s0, .val (.int i1), s2, s3, .val (.int i4), .val (.int i5), .val (.int (Int32.ofNat n)), s7, s8, .val (.ref o9), s10, s11, s12] [])) _
        refine XS.aload X0.here hx rfl (hb hby at_63) rfl rfl ?_
        show Steps p.tables e below (T0.setTop (mkF m 65 #[s0, .val (.int i1), s2, s3, .val (.int i4), .val (.int i5), .val (.int (Int32.ofNat n)), s7, s8, .val (.ref o9), s10, s11, s12] [(.ref o9)])) _
        refine XS.iconst X0.here hx rfl (hb hby at_65) ?_
        show Steps p.tables e below (T0.setTop (mkF m 66 #[s0, .val (.int i1), s2, s3, .val (.int i4), .val (.int i5), .val (.int (Int32.ofNat n)), s7, s8, .val (.ref o9), s10, s11, s12] [(.int (1 : Int32)), (.ref o9)])) _
        refine XS.iloadN X0.here hx rfl (hb hby at_66) rfl ?_
        show Steps p.tables e below (T0.setTop (mkF m 67 #[s0, .val (.int i1), s2, s3, .val (.int i4), .val (.int i5), .val (.int (Int32.ofNat n)), s7, s8, .val (.ref o9), s10, s11, s12] [(.int i1), (.int (1 : Int32)), (.ref o9)])) _
        refine XS.iconst X0.here hx rfl (hb hby at_67) ?_
        show Steps p.tables e below (T0.setTop (mkF m 68 #[s0, .val (.int i1), s2, s3, .val (.int i4), .val (.int i5), .val (.int (Int32.ofNat n)), s7, s8, .val (.ref o9), s10, s11, s12] [(.int (1 : Int32)), (.int i1), (.int (1 : Int32)), (.ref o9)])) _
        refine XS.iload X0.here hx rfl (hb hby at_68) rfl ?_
        show Steps p.tables e below (T0.setTop (mkF m 70 #[s0, .val (.int i1), s2, s3, .val (.int i4), .val (.int i5), .val (.int (Int32.ofNat n)), s7, s8, .val (.ref o9), s10, s11, s12] [(.int i4), (.int (1 : Int32)), (.int i1), (.int (1 : Int32)), (.ref o9)])) _
        refine XS.iload X0.here hx rfl (hb hby at_70) rfl ?_
        show Steps p.tables e below (T0.setTop (mkF m 72 #[s0, .val (.int i1), s2, s3, .val (.int i4), .val (.int i5), .val (.int (Int32.ofNat n)), s7, s8, .val (.ref o9), s10, s11, s12] [(.int i5), (.int i4), (.int (1 : Int32)), (.int i1), (.int (1 : Int32)), (.ref o9)])) _
        exact k)
    obtain ⟨_, _, ⟨T152, L152, kk152, nn152⟩, -, X152, ⟨Lc152, hQ152, l152, y152, z152⟩, st152⟩ := Jvm.LawKit.callS X0 hx (y := (⟨"com/example/orbweaver/orbweaver/store/GzipMembersIndexOfPinLaw", "pick", "(IIBB)B"⟩ : MethodName)) hown (mvT hZ (hw _ (List.mem_of_getElem? (i := 2) rfl))) (mvT hZ (hw _ (List.mem_of_getElem? (i := 3) rfl))) (mvT hZ (hw _ (List.mem_of_getElem? (i := 4) rfl))) (mvT hZ (hw _ (List.mem_of_getElem? (i := 5) rfl))) (by decide) (backOf (W := 2) (rm1 l Z a0 hw [] i1 (1 : Int32) i4 i5 h0 n0 Z0) hZ (hw _ (List.mem_of_getElem? (i := 5) rfl)) (hw _ (List.mem_of_getElem? (i := 4) rfl)) (by decide) (by decide)) (g := (mkF m 72 #[s0, .val (.int i1), s2, s3, .val (.int i4), .val (.int i5), .val (.int (Int32.ofNat n)), s7, s8, .val (.ref o9), s10, s11, s12] [(.int i5), (.int i4), (.int (1 : Int32)), (.int i1), (.int (1 : Int32)), (.ref o9)])) rfl (by rw [hml]; rfl) (argsL := [(.int i1), (.int (1 : Int32)), (.int i4), (.int i5)]) (rest := [(.int (1 : Int32)), (.ref o9)]) (lenOf pd__IIBB_B rfl) rfl (by show 2 * 0 + _ ≤ _; exact Nat.le_of_eq rfl) (hb hby at_72) (fun _ _ => ⟨rfl, e0, (by decide : 1 + 0 ≤ _), (by decide : 7 + 0 ≤ _)⟩)
    dsimp only [Pt.U, Pt.locs, Pt.cells, Pt.slots] at X152 l152 y152 z152 st152 hQ152
    subst l152 y152 z152
    obtain ⟨rfl, Nq152, e152⟩ := hQ152
    have N152 := Fr.app N0 Nq152
    have q153 : ∀ t, Steps p.tables e below (T152.setTop (mkF m 75 #[s0, .val (.int i1), s2, s3, .val (.int i4), .val (.int i5), .val (.int (Int32.ofNat n)), s7, s8, .val (.ref o9), s10, s11, s12] [(.int (own_pk i1 (1 : Int32) i4 i5)), (.int (1 : Int32)), (.ref o9)])) t → Steps p.tables e below (T0.setTop (mkF m 57 #[s0, .val (.int i1), s2, s3, .val (.int i4), .val (.int i5), .val (.int (Int32.ofNat n)), s7, s8, .val (.ref o9), s10, s11, s12] [])) t := fun t k => q151 t (st152 t k)
    obtain ⟨cl, Ar, S, M, H⟩ := B
    obtain ⟨T154, h154, X154, e154, W154, st154⟩ := stB X152 hx hZ e152 (Ar) (j := (1 : Int32)) (inb_of S ⟨by decide, kk⟩) (g := (mkF m 75 #[s0, .val (.int i1), s2, s3, .val (.int i4), .val (.int i5), .val (.int (Int32.ofNat n)), s7, s8, .val (.ref o9), s10, s11, s12] [(.int (own_pk i1 (1 : Int32) i4 i5)), (.int (1 : Int32)), (.ref o9)])) rfl rfl (hb hby at_75)
    have N154 := Fr.snoc X154 N152 (g9)
    have q155 : ∀ t, Steps p.tables e below (T154.setTop (mkF m 76 #[s0, .val (.int i1), s2, s3, .val (.int i4), .val (.int i5), .val (.int (Int32.ofNat n)), s7, s8, .val (.ref o9), s10, s11, s12] [])) t → Steps p.tables e below (T0.setTop (mkF m 57 #[s0, .val (.int i1), s2, s3, .val (.int i4), .val (.int i5), .val (.int (Int32.ofNat n)), s7, s8, .val (.ref o9), s10, s11, s12] [])) t := fun t k => q153 t (st154 t k)
    have Z154 : n0 ≤ h154.size := Nat.le_trans Z0 (Keep.of_wr W154).1
    exact ⟨_, _, _, _, X154, e154, N154, Z154, Bt.set Ar S M H W154, q155⟩
  · skip
    have q156 : ∀ t, Steps p.tables e below (T0.setTop (mkF m 76 #[s0, .val (.int i1), s2, s3, .val (.int i4), .val (.int i5), .val (.int (Int32.ofNat n)), s7, s8, .val (.ref o9), s10, s11, s12] [])) t → Steps p.tables e below (T0.setTop (mkF m 57 #[s0, .val (.int i1), s2, s3, .val (.int i4), .val (.int i5), .val (.int (Int32.ofNat n)), s7, s8, .val (.ref o9), s10, s11, s12] [])) t := fun t k => q150 t (by
        show Steps p.tables e below (T0.setTop (mkF m 60 #[s0, .val (.int i1), s2, s3, .val (.int i4), .val (.int i5), .val (.int (Int32.ofNat n)), s7, s8, .val (.ref o9), s10, s11, s12] [(.int (1 : Int32)), (.int (Int32.ofNat n))])) _
        refine XS.icmpYes X0.here hx rfl (pc0 := 60) (pc' := 76) rfl (hb hby at_60) rfl (XT.ii_le_t (kk : ¬ ((1 : Int32) < (Int32.ofNat n)))) (by decide) (by decide) ?_
        show Steps p.tables e below (T0.setTop (mkF m 76 #[s0, .val (.int i1), s2, s3, .val (.int i4), .val (.int i5), .val (.int (Int32.ofNat n)), s7, s8, .val (.ref o9), s10, s11, s12] [])) _
        exact k)
    exact ⟨_, _, _, _, X0, e0, N0, Z0, B, q156⟩
set_option maxRecDepth 65536 in
set_option maxHeartbeats 40000000 in
theorem sb2 {p : Program} {l : Launch} {e : Env} {s : State} {m : MethodId} {args : Array Value} {below : List Frame} {meth : Method} {c : Code} {T0 : State} {locs : List Loc} {Z : State} {a0 : Array Value} {h0 : Heap} (s0 : Slot) (i1 : Int32) (s2 s3 : Slot) (i4 i5 : Int32) (s7 s8 : Slot) (o9 : Addr) (s10 s11 s12 : Slot) (n : Nat) (f : Nat → Int32) (n0 : Nat)
    (X0 : Stand p l e room_1 s m args below meth c T0 locs 1 7) (hx : p.tables.exec = Jvm.exec) (hZ : Z.Warmed39 s.vm) (hw : ∀ d ∈ tables_1, d.before a0 Z = true) (hby : c.code = code) (hml : c.maxLocals = 13) (hown : s.vm.findClass "com/example/orbweaver/orbweaver/store/GzipMembersIndexOfPinLaw" = some m.cls) (e0 : T0.heap = h0) (Z0 : n0 ≤ h0.size) (N0 : Fr n0 locs) (g9 : n0 ≤ o9) (B : Bt Z h0 o9 (Int32.ofNat n) f) :
    ∃ (T' : State) (h' : Heap) (locs' : List Loc) (f' : Nat → Int32), Stand p l e room_1 s m args below meth c T' locs' 1 7 ∧ T'.heap = h' ∧ Fr n0 locs' ∧ n0 ≤ h'.size ∧ Bt Z h' o9 (Int32.ofNat n) f' ∧ ∀ t, Steps p.tables e below (T'.setTop (mkF m 95 #[s0, .val (.int i1), s2, s3, .val (.int i4), .val (.int i5), .val (.int (Int32.ofNat n)), s7, s8, .val (.ref o9), s10, s11, s12] [])) t → Steps p.tables e below (T0.setTop (mkF m 76 #[s0, .val (.int i1), s2, s3, .val (.int i4), .val (.int i5), .val (.int (Int32.ofNat n)), s7, s8, .val (.ref o9), s10, s11, s12] [])) t := by
  have pre0 : ∀ t, Steps p.tables e below (T0.setTop (mkF m 76 #[s0, .val (.int i1), s2, s3, .val (.int i4), .val (.int i5), .val (.int (Int32.ofNat n)), s7, s8, .val (.ref o9), s10, s11, s12] [])) t → Steps p.tables e below (T0.setTop (mkF m 76 #[s0, .val (.int i1), s2, s3, .val (.int i4), .val (.int i5), .val (.int (Int32.ofNat n)), s7, s8, .val (.ref o9), s10, s11, s12] [])) t := fun t k => k
  have q157 : ∀ t, Steps p.tables e below (T0.setTop (mkF m 79 #[s0, .val (.int i1), s2, s3, .val (.int i4), .val (.int i5), .val (.int (Int32.ofNat n)), s7, s8, .val (.ref o9), s10, s11, s12] [(.int (2 : Int32)), (.int (Int32.ofNat n))])) t → Steps p.tables e below (T0.setTop (mkF m 76 #[s0, .val (.int i1), s2, s3, .val (.int i4), .val (.int i5), .val (.int (Int32.ofNat n)), s7, s8, .val (.ref o9), s10, s11, s12] [])) t := fun t k => pre0 t (by
      show Steps p.tables e below (T0.setTop (mkF m 76 #[s0, .val (.int i1), s2, s3, .val (.int i4), .val (.int i5), .val (.int (Int32.ofNat n)), s7, s8, .val (.ref o9), s10, s11, s12] [])) _
      refine XS.iload X0.here hx rfl (hb hby at_76) rfl ?_
      show Steps p.tables e below (T0.setTop (mkF m 78 #[s0, .val (.int i1), s2, s3, .val (.int i4), .val (.int i5), .val (.int (Int32.ofNat n)), s7, s8, .val (.ref o9), s10, s11, s12] [(.int (Int32.ofNat n))])) _
      refine XS.iconst X0.here hx rfl (hb hby at_78) ?_
      show Steps p.tables e below (T0.setTop (mkF m 79 #[s0, .val (.int i1), s2, s3, .val (.int i4), .val (.int i5), .val (.int (Int32.ofNat n)), s7, s8, .val (.ref o9), s10, s11, s12] [(.int (2 : Int32)), (.int (Int32.ofNat n))])) _
      exact k)
  by_cases kk : (2 : Int32) < (Int32.ofNat n)
  · skip
    have q158 : ∀ t, Steps p.tables e below (T0.setTop (mkF m 91 #[s0, .val (.int i1), s2, s3, .val (.int i4), .val (.int i5), .val (.int (Int32.ofNat n)), s7, s8, .val (.ref o9), s10, s11, s12] [(.int i5), (.int i4), (.int (2 : Int32)), (.int i1), (.int (2 : Int32)), (.ref o9)])) t → Steps p.tables e below (T0.setTop (mkF m 76 #[s0, .val (.int i1), s2, s3, .val (.int i4), .val (.int i5), .val (.int (Int32.ofNat n)), s7, s8, .val (.ref o9), s10, s11, s12] [])) t := fun t k => q157 t (by
        show Steps p.tables e below (T0.setTop (mkF m 79 #[s0, .val (.int i1), s2, s3, .val (.int i4), .val (.int i5), .val (.int (Int32.ofNat n)), s7, s8, .val (.ref o9), s10, s11, s12] [(.int (2 : Int32)), (.int (Int32.ofNat n))])) _
        refine XS.icmpNo X0.here hx rfl (hb hby at_79) rfl (XT.ii_le_f (kk : (2 : Int32) < (Int32.ofNat n))) ?_
        show Steps p.tables e below (T0.setTop (mkF m 82 #[s0, .val (.int i1), s2, s3, .val (.int i4), .val (.int i5), .val (.int (Int32.ofNat n)), s7, s8, .val (.ref o9), s10, s11, s12] [])) _
        refine XS.aload X0.here hx rfl (hb hby at_82) rfl rfl ?_
        show Steps p.tables e below (T0.setTop (mkF m 84 #[s0, .val (.int i1), s2, s3, .val (.int i4), .val (.int i5), .val (.int (Int32.ofNat n)), s7, s8, .val (.ref o9), s10, s11, s12] [(.ref o9)])) _
        refine XS.iconst X0.here hx rfl (hb hby at_84) ?_
        show Steps p.tables e below (T0.setTop (mkF m 85 #[s0, .val (.int i1), s2, s3, .val (.int i4), .val (.int i5), .val (.int (Int32.ofNat n)), s7, s8, .val (.ref o9), s10, s11, s12] [(.int (2 : Int32)), (.ref o9)])) _
        refine XS.iloadN X0.here hx rfl (hb hby at_85) rfl ?_
        show Steps p.tables e below (T0.setTop (mkF m 86 #[s0, .val (.int i1), s2, s3, .val (.int i4), .val (.int i5), .val (.int (Int32.ofNat n)), s7, s8, .val (.ref o9), s10, s11, s12] [(.int i1), (.int (2 : Int32)), (.ref o9)])) _
        refine XS.iconst X0.here hx rfl (hb hby at_86) ?_
        show Steps p.tables e below (T0.setTop (mkF m 87 #[s0, .val (.int i1), s2, s3, .val (.int i4), .val (.int i5), .val (.int (Int32.ofNat n)), s7, s8, .val (.ref o9), s10, s11, s12] [(.int (2 : Int32)), (.int i1), (.int (2 : Int32)), (.ref o9)])) _
        refine XS.iload X0.here hx rfl (hb hby at_87) rfl ?_
        show Steps p.tables e below (T0.setTop (mkF m 89 #[s0, .val (.int i1), s2, s3, .val (.int i4), .val (.int i5), .val (.int (Int32.ofNat n)), s7, s8, .val (.ref o9), s10, s11, s12] [(.int i4), (.int (2 : Int32)), (.int i1), (.int (2 : Int32)), (.ref o9)])) _
        refine XS.iload X0.here hx rfl (hb hby at_89) rfl ?_
        show Steps p.tables e below (T0.setTop (mkF m 91 #[s0, .val (.int i1), s2, s3, .val (.int i4), .val (.int i5), .val (.int (Int32.ofNat n)), s7, s8, .val (.ref o9), s10, s11, s12] [(.int i5), (.int i4), (.int (2 : Int32)), (.int i1), (.int (2 : Int32)), (.ref o9)])) _
        exact k)
    obtain ⟨_, _, ⟨T159, L159, kk159, nn159⟩, -, X159, ⟨Lc159, hQ159, l159, y159, z159⟩, st159⟩ := Jvm.LawKit.callS X0 hx (y := (⟨"com/example/orbweaver/orbweaver/store/GzipMembersIndexOfPinLaw", "pick", "(IIBB)B"⟩ : MethodName)) hown (mvT hZ (hw _ (List.mem_of_getElem? (i := 2) rfl))) (mvT hZ (hw _ (List.mem_of_getElem? (i := 3) rfl))) (mvT hZ (hw _ (List.mem_of_getElem? (i := 4) rfl))) (mvT hZ (hw _ (List.mem_of_getElem? (i := 5) rfl))) (by decide) (backOf (W := 2) (rm1 l Z a0 hw [] i1 (2 : Int32) i4 i5 h0 n0 Z0) hZ (hw _ (List.mem_of_getElem? (i := 5) rfl)) (hw _ (List.mem_of_getElem? (i := 4) rfl)) (by decide) (by decide)) (g := (mkF m 91 #[s0, .val (.int i1), s2, s3, .val (.int i4), .val (.int i5), .val (.int (Int32.ofNat n)), s7, s8, .val (.ref o9), s10, s11, s12] [(.int i5), (.int i4), (.int (2 : Int32)), (.int i1), (.int (2 : Int32)), (.ref o9)])) rfl (by rw [hml]; rfl) (argsL := [(.int i1), (.int (2 : Int32)), (.int i4), (.int i5)]) (rest := [(.int (2 : Int32)), (.ref o9)]) (lenOf pd__IIBB_B rfl) rfl (by show 2 * 0 + _ ≤ _; exact Nat.le_of_eq rfl) (hb hby at_91) (fun _ _ => ⟨rfl, e0, (by decide : 1 + 0 ≤ _), (by decide : 7 + 0 ≤ _)⟩)
    dsimp only [Pt.U, Pt.locs, Pt.cells, Pt.slots] at X159 l159 y159 z159 st159 hQ159
    subst l159 y159 z159
    obtain ⟨rfl, Nq159, e159⟩ := hQ159
    have N159 := Fr.app N0 Nq159
    have q160 : ∀ t, Steps p.tables e below (T159.setTop (mkF m 94 #[s0, .val (.int i1), s2, s3, .val (.int i4), .val (.int i5), .val (.int (Int32.ofNat n)), s7, s8, .val (.ref o9), s10, s11, s12] [(.int (own_pk i1 (2 : Int32) i4 i5)), (.int (2 : Int32)), (.ref o9)])) t → Steps p.tables e below (T0.setTop (mkF m 76 #[s0, .val (.int i1), s2, s3, .val (.int i4), .val (.int i5), .val (.int (Int32.ofNat n)), s7, s8, .val (.ref o9), s10, s11, s12] [])) t := fun t k => q158 t (st159 t k)
    obtain ⟨cl, Ar, S, M, H⟩ := B
    obtain ⟨T161, h161, X161, e161, W161, st161⟩ := stB X159 hx hZ e159 (Ar) (j := (2 : Int32)) (inb_of S ⟨by decide, kk⟩) (g := (mkF m 94 #[s0, .val (.int i1), s2, s3, .val (.int i4), .val (.int i5), .val (.int (Int32.ofNat n)), s7, s8, .val (.ref o9), s10, s11, s12] [(.int (own_pk i1 (2 : Int32) i4 i5)), (.int (2 : Int32)), (.ref o9)])) rfl rfl (hb hby at_94)
    have N161 := Fr.snoc X161 N159 (g9)
    have q162 : ∀ t, Steps p.tables e below (T161.setTop (mkF m 95 #[s0, .val (.int i1), s2, s3, .val (.int i4), .val (.int i5), .val (.int (Int32.ofNat n)), s7, s8, .val (.ref o9), s10, s11, s12] [])) t → Steps p.tables e below (T0.setTop (mkF m 76 #[s0, .val (.int i1), s2, s3, .val (.int i4), .val (.int i5), .val (.int (Int32.ofNat n)), s7, s8, .val (.ref o9), s10, s11, s12] [])) t := fun t k => q160 t (st161 t k)
    have Z161 : n0 ≤ h161.size := Nat.le_trans Z0 (Keep.of_wr W161).1
    exact ⟨_, _, _, _, X161, e161, N161, Z161, Bt.set Ar S M H W161, q162⟩
  · skip
    have q163 : ∀ t, Steps p.tables e below (T0.setTop (mkF m 95 #[s0, .val (.int i1), s2, s3, .val (.int i4), .val (.int i5), .val (.int (Int32.ofNat n)), s7, s8, .val (.ref o9), s10, s11, s12] [])) t → Steps p.tables e below (T0.setTop (mkF m 76 #[s0, .val (.int i1), s2, s3, .val (.int i4), .val (.int i5), .val (.int (Int32.ofNat n)), s7, s8, .val (.ref o9), s10, s11, s12] [])) t := fun t k => q157 t (by
        show Steps p.tables e below (T0.setTop (mkF m 79 #[s0, .val (.int i1), s2, s3, .val (.int i4), .val (.int i5), .val (.int (Int32.ofNat n)), s7, s8, .val (.ref o9), s10, s11, s12] [(.int (2 : Int32)), (.int (Int32.ofNat n))])) _
        refine XS.icmpYes X0.here hx rfl (pc0 := 79) (pc' := 95) rfl (hb hby at_79) rfl (XT.ii_le_t (kk : ¬ ((2 : Int32) < (Int32.ofNat n)))) (by decide) (by decide) ?_
        show Steps p.tables e below (T0.setTop (mkF m 95 #[s0, .val (.int i1), s2, s3, .val (.int i4), .val (.int i5), .val (.int (Int32.ofNat n)), s7, s8, .val (.ref o9), s10, s11, s12] [])) _
        exact k)
    exact ⟨_, _, _, _, X0, e0, N0, Z0, B, q163⟩
set_option maxRecDepth 65536 in
set_option maxHeartbeats 40000000 in
theorem sb3 {p : Program} {l : Launch} {e : Env} {s : State} {m : MethodId} {args : Array Value} {below : List Frame} {meth : Method} {c : Code} {T0 : State} {locs : List Loc} {Z : State} {a0 : Array Value} {h0 : Heap} (s0 : Slot) (i1 : Int32) (s2 s3 : Slot) (i4 i5 : Int32) (s7 s8 : Slot) (o9 : Addr) (s10 s11 s12 : Slot) (n : Nat) (f : Nat → Int32) (n0 : Nat)
    (X0 : Stand p l e room_1 s m args below meth c T0 locs 1 7) (hx : p.tables.exec = Jvm.exec) (hZ : Z.Warmed39 s.vm) (hw : ∀ d ∈ tables_1, d.before a0 Z = true) (hby : c.code = code) (hml : c.maxLocals = 13) (hown : s.vm.findClass "com/example/orbweaver/orbweaver/store/GzipMembersIndexOfPinLaw" = some m.cls) (e0 : T0.heap = h0) (Z0 : n0 ≤ h0.size) (N0 : Fr n0 locs) (g9 : n0 ≤ o9) (B : Bt Z h0 o9 (Int32.ofNat n) f) :
    ∃ (T' : State) (h' : Heap) (locs' : List Loc) (f' : Nat → Int32), Stand p l e room_1 s m args below meth c T' locs' 1 7 ∧ T'.heap = h' ∧ Fr n0 locs' ∧ n0 ≤ h'.size ∧ Bt Z h' o9 (Int32.ofNat n) f' ∧ ∀ t, Steps p.tables e below (T'.setTop (mkF m 114 #[s0, .val (.int i1), s2, s3, .val (.int i4), .val (.int i5), .val (.int (Int32.ofNat n)), s7, s8, .val (.ref o9), s10, s11, s12] [])) t → Steps p.tables e below (T0.setTop (mkF m 95 #[s0, .val (.int i1), s2, s3, .val (.int i4), .val (.int i5), .val (.int (Int32.ofNat n)), s7, s8, .val (.ref o9), s10, s11, s12] [])) t := by
  have pre0 : ∀ t, Steps p.tables e below (T0.setTop (mkF m 95 #[s0, .val (.int i1), s2, s3, .val (.int i4), .val (.int i5), .val (.int (Int32.ofNat n)), s7, s8, .val (.ref o9), s10, s11, s12] [])) t → Steps p.tables e below (T0.setTop (mkF m 95 #[s0, .val (.int i1), s2, s3, .val (.int i4), .val (.int i5), .val (.int (Int32.ofNat n)), s7, s8, .val (.ref o9), s10, s11, s12] [])) t := fun t k => k
  have q164 : ∀ t, Steps p.tables e below (T0.setTop (mkF m 98 #[s0, .val (.int i1), s2, s3, .val (.int i4), .val (.int i5), .val (.int (Int32.ofNat n)), s7, s8, .val (.ref o9), s10, s11, s12] [(.int (3 : Int32)), (.int (Int32.ofNat n))])) t → Steps p.tables e below (T0.setTop (mkF m 95 #[s0, .val (.int i1), s2, s3, .val (.int i4), .val (.int i5), .val (.int (Int32.ofNat n)), s7, s8, .val (.ref o9), s10, s11, s12] [])) t := fun t k => pre0 t (by
      show Steps p.tables e below (T0.setTop (mkF m 95 #[s0, .val (.int i1), s2, s3, .val (.int i4), .val (.int i5), .val (.int (Int32.ofNat n)), s7, s8, .val (.ref o9), s10, s11, s12] [])) _
      refine XS.iload X0.here hx rfl (hb hby at_95) rfl ?_
      show Steps p.tables e below (T0.setTop (mkF m 97 #[s0, .val (.int i1), s2, s3, .val (.int i4), .val (.int i5), .val (.int (Int32.ofNat n)), s7, s8, .val (.ref o9), s10, s11, s12] [(.int (Int32.ofNat n))])) _
      refine XS.iconst X0.here hx rfl (hb hby at_97) ?_
      show Steps p.tables e below (T0.setTop (mkF m 98 #[s0, .val (.int i1), s2, s3, .val (.int i4), .val (.int i5), .val (.int (Int32.ofNat n)), s7, s8, .val (.ref o9), s10, s11, s12] [(.int (3 : Int32)), (.int (Int32.ofNat n))])) _
      exact k)
  by_cases kk : (3 : Int32) < (Int32.ofNat n)
  · skip
    have q165 : ∀ t, Steps p.tables e below (T0.setTop (mkF m 110 #[s0, .val (.int i1), s2, s3, .val (.int i4), .val (.int i5), .val (.int (Int32.ofNat n)), s7, s8, .val (.ref o9), s10, s11, s12] [(.int i5), (.int i4), (.int (3 : Int32)), (.int i1), (.int (3 : Int32)), (.ref o9)])) t → Steps p.tables e below (T0.setTop (mkF m 95 #[s0, .val (.int i1), s2, s3, .val (.int i4), .val (.int i5), .val (.int (Int32.ofNat n)), s7, s8, .val (.ref o9), s10, s11, s12] [])) t := fun t k => q164 t (by
        show Steps p.tables e below (T0.setTop (mkF m 98 #[s0, .val (.int i1), s2, s3, .val (.int i4), .val (.int i5), .val (.int (Int32.ofNat n)), s7, s8, .val (.ref o9), s10, s11, s12] [(.int (3 : Int32)), (.int (Int32.ofNat n))])) _
        refine XS.icmpNo X0.here hx rfl (hb hby at_98) rfl (XT.ii_le_f (kk : (3 : Int32) < (Int32.ofNat n))) ?_
        show Steps p.tables e below (T0.setTop (mkF m 101 #[s0, .val (.int i1), s2, s3, .val (.int i4), .val (.int i5), .val (.int (Int32.ofNat n)), s7, s8, .val (.ref o9), s10, s11, s12] [])) _
        refine XS.aload X0.here hx rfl (hb hby at_101) rfl rfl ?_
        show Steps p.tables e below (T0.setTop (mkF m 103 #[s0, .val (.int i1), s2, s3, .val (.int i4), .val (.int i5), .val (.int (Int32.ofNat n)), s7, s8, .val (.ref o9), s10, s11, s12] [(.ref o9)])) _
        refine XS.iconst X0.here hx rfl (hb hby at_103) ?_
        show Steps p.tables e below (T0.setTop (mkF m 104 #[s0, .val (.int i1), s2, s3, .val (.int i4), .val (.int i5), .val (.int (Int32.ofNat n)), s7, s8, .val (.ref o9), s10, s11, s12] [(.int (3 : Int32)), (.ref o9)])) _
        refine XS.iloadN X0.here hx rfl (hb hby at_104) rfl ?_
        show Steps p.tables e below (T0.setTop (mkF m 105 #[s0, .val (.int i1), s2, s3, .val (.int i4), .val (.int i5), .val (.int (Int32.ofNat n)), s7, s8, .val (.ref o9), s10, s11, s12] [(.int i1), (.int (3 : Int32)), (.ref o9)])) _
        refine XS.iconst X0.here hx rfl (hb hby at_105) ?_
        show Steps p.tables e below (T0.setTop (mkF m 106 #[s0, .val (.int i1), s2, s3, .val (.int i4), .val (.int i5), .val (.int (Int32.ofNat n)), s7, s8, .val (.ref o9), s10, s11, s12] [(.int (3 : Int32)), (.int i1), (.int (3 : Int32)), (.ref o9)])) _
        refine XS.iload X0.here hx rfl (hb hby at_106) rfl ?_
        show Steps p.tables e below (T0.setTop (mkF m 108 #[s0, .val (.int i1), s2, s3, .val (.int i4), .val (.int i5), .val (.int (Int32.ofNat n)), s7, s8, .val (.ref o9), s10, s11, s12] [(.int i4), (.int (3 : Int32)), (.int i1), (.int (3 : Int32)), (.ref o9)])) _
        refine XS.iload X0.here hx rfl (hb hby at_108) rfl ?_
        show Steps p.tables e below (T0.setTop (mkF m 110 #[s0, .val (.int i1), s2, s3, .val (.int i4), .val (.int i5), .val (.int (Int32.ofNat n)), s7, s8, .val (.ref o9), s10, s11, s12] [(.int i5), (.int i4), (.int (3 : Int32)), (.int i1), (.int (3 : Int32)), (.ref o9)])) _
        exact k)
    obtain ⟨_, _, ⟨T166, L166, kk166, nn166⟩, -, X166, ⟨Lc166, hQ166, l166, y166, z166⟩, st166⟩ := Jvm.LawKit.callS X0 hx (y := (⟨"com/example/orbweaver/orbweaver/store/GzipMembersIndexOfPinLaw", "pick", "(IIBB)B"⟩ : MethodName)) hown (mvT hZ (hw _ (List.mem_of_getElem? (i := 2) rfl))) (mvT hZ (hw _ (List.mem_of_getElem? (i := 3) rfl))) (mvT hZ (hw _ (List.mem_of_getElem? (i := 4) rfl))) (mvT hZ (hw _ (List.mem_of_getElem? (i := 5) rfl))) (by decide) (backOf (W := 2) (rm1 l Z a0 hw [] i1 (3 : Int32) i4 i5 h0 n0 Z0) hZ (hw _ (List.mem_of_getElem? (i := 5) rfl)) (hw _ (List.mem_of_getElem? (i := 4) rfl)) (by decide) (by decide)) (g := (mkF m 110 #[s0, .val (.int i1), s2, s3, .val (.int i4), .val (.int i5), .val (.int (Int32.ofNat n)), s7, s8, .val (.ref o9), s10, s11, s12] [(.int i5), (.int i4), (.int (3 : Int32)), (.int i1), (.int (3 : Int32)), (.ref o9)])) rfl (by rw [hml]; rfl) (argsL := [(.int i1), (.int (3 : Int32)), (.int i4), (.int i5)]) (rest := [(.int (3 : Int32)), (.ref o9)]) (lenOf pd__IIBB_B rfl) rfl (by show 2 * 0 + _ ≤ _; exact Nat.le_of_eq rfl) (hb hby at_110) (fun _ _ => ⟨rfl, e0, (by decide : 1 + 0 ≤ _), (by decide : 7 + 0 ≤ _)⟩)
    dsimp only [Pt.U, Pt.locs, Pt.cells, Pt.slots] at X166 l166 y166 z166 st166 hQ166
    subst l166 y166 z166
    obtain ⟨rfl, Nq166, e166⟩ := hQ166
    have N166 := Fr.app N0 Nq166
    have q167 : ∀ t, Steps p.tables e below (T166.setTop (mkF m 113 #[s0, .val (.int i1), s2, s3, .val (.int i4), .val (.int i5), .val (.int (Int32.ofNat n)), s7, s8, .val (.ref o9), s10, s11, s12] [(.int (own_pk i1 (3 : Int32) i4 i5)), (.int (3 : Int32)), (.ref o9)])) t → Steps p.tables e below (T0.setTop (mkF m 95 #[s0, .val (.int i1), s2, s3, .val (.int i4), .val (.int i5), .val (.int (Int32.ofNat n)), s7, s8, .val (.ref o9), s10, s11, s12] [])) t := fun t k => q165 t (st166 t k)
    obtain ⟨cl, Ar, S, M, H⟩ := B
    obtain ⟨T168, h168, X168, e168, W168, st168⟩ := stB X166 hx hZ e166 (Ar) (j := (3 : Int32)) (inb_of S ⟨by decide, kk⟩) (g := (mkF m 113 #[s0, .val (.int i1), s2, s3, .val (.int i4), .val (.int i5), .val (.int (Int32.ofNat n)), s7, s8, .val (.ref o9), s10, s11, s12] [(.int (own_pk i1 (3 : Int32) i4 i5)), (.int (3 : Int32)), (.ref o9)])) rfl rfl (hb hby at_113)
    have N168 := Fr.snoc X168 N166 (g9)
    have q169 : ∀ t, Steps p.tables e below (T168.setTop (mkF m 114 #[s0, .val (.int i1), s2, s3, .val (.int i4), .val (.int i5), .val (.int (Int32.ofNat n)), s7, s8, .val (.ref o9), s10, s11, s12] [])) t → Steps p.tables e below (T0.setTop (mkF m 95 #[s0, .val (.int i1), s2, s3, .val (.int i4), .val (.int i5), .val (.int (Int32.ofNat n)), s7, s8, .val (.ref o9), s10, s11, s12] [])) t := fun t k => q167 t (st168 t k)
    have Z168 : n0 ≤ h168.size := Nat.le_trans Z0 (Keep.of_wr W168).1
    exact ⟨_, _, _, _, X168, e168, N168, Z168, Bt.set Ar S M H W168, q169⟩
  · skip
    have q170 : ∀ t, Steps p.tables e below (T0.setTop (mkF m 114 #[s0, .val (.int i1), s2, s3, .val (.int i4), .val (.int i5), .val (.int (Int32.ofNat n)), s7, s8, .val (.ref o9), s10, s11, s12] [])) t → Steps p.tables e below (T0.setTop (mkF m 95 #[s0, .val (.int i1), s2, s3, .val (.int i4), .val (.int i5), .val (.int (Int32.ofNat n)), s7, s8, .val (.ref o9), s10, s11, s12] [])) t := fun t k => q164 t (by
        show Steps p.tables e below (T0.setTop (mkF m 98 #[s0, .val (.int i1), s2, s3, .val (.int i4), .val (.int i5), .val (.int (Int32.ofNat n)), s7, s8, .val (.ref o9), s10, s11, s12] [(.int (3 : Int32)), (.int (Int32.ofNat n))])) _
        refine XS.icmpYes X0.here hx rfl (pc0 := 98) (pc' := 114) rfl (hb hby at_98) rfl (XT.ii_le_t (kk : ¬ ((3 : Int32) < (Int32.ofNat n)))) (by decide) (by decide) ?_
        show Steps p.tables e below (T0.setTop (mkF m 114 #[s0, .val (.int i1), s2, s3, .val (.int i4), .val (.int i5), .val (.int (Int32.ofNat n)), s7, s8, .val (.ref o9), s10, s11, s12] [])) _
        exact k)
    exact ⟨_, _, _, _, X0, e0, N0, Z0, B, q170⟩
set_option maxRecDepth 65536 in
set_option maxHeartbeats 40000000 in
theorem sb4 {p : Program} {l : Launch} {e : Env} {s : State} {m : MethodId} {args : Array Value} {below : List Frame} {meth : Method} {c : Code} {T0 : State} {locs : List Loc} {Z : State} {a0 : Array Value} {h0 : Heap} (s0 : Slot) (i1 : Int32) (s2 s3 : Slot) (i4 i5 : Int32) (s7 s8 : Slot) (o9 : Addr) (s10 s11 s12 : Slot) (n : Nat) (f : Nat → Int32) (n0 : Nat)
    (X0 : Stand p l e room_1 s m args below meth c T0 locs 1 7) (hx : p.tables.exec = Jvm.exec) (hZ : Z.Warmed39 s.vm) (hw : ∀ d ∈ tables_1, d.before a0 Z = true) (hby : c.code = code) (hml : c.maxLocals = 13) (hown : s.vm.findClass "com/example/orbweaver/orbweaver/store/GzipMembersIndexOfPinLaw" = some m.cls) (e0 : T0.heap = h0) (Z0 : n0 ≤ h0.size) (N0 : Fr n0 locs) (g9 : n0 ≤ o9) (B : Bt Z h0 o9 (Int32.ofNat n) f) :
    ∃ (T' : State) (h' : Heap) (locs' : List Loc) (f' : Nat → Int32), Stand p l e room_1 s m args below meth c T' locs' 1 7 ∧ T'.heap = h' ∧ Fr n0 locs' ∧ n0 ≤ h'.size ∧ Bt Z h' o9 (Int32.ofNat n) f' ∧ ∀ t, Steps p.tables e below (T'.setTop (mkF m 133 #[s0, .val (.int i1), s2, s3, .val (.int i4), .val (.int i5), .val (.int (Int32.ofNat n)), s7, s8, .val (.ref o9), s10, s11, s12] [])) t → Steps p.tables e below (T0.setTop (mkF m 114 #[s0, .val (.int i1), s2, s3, .val (.int i4), .val (.int i5), .val (.int (Int32.ofNat n)), s7, s8, .val (.ref o9), s10, s11, s12] [])) t := by
  have pre0 : ∀ t, Steps p.tables e below (T0.setTop (mkF m 114 #[s0, .val (.int i1), s2, s3, .val (.int i4), .val (.int i5), .val (.int (Int32.ofNat n)), s7, s8, .val (.ref o9), s10, s11, s12] [])) t → Steps p.tables e below (T0.setTop (mkF m 114 #[s0, .val (.int i1), s2, s3, .val (.int i4), .val (.int i5), .val (.int (Int32.ofNat n)), s7, s8, .val (.ref o9), s10, s11, s12] [])) t := fun t k => k
  have q171 : ∀ t, Steps p.tables e below (T0.setTop (mkF m 117 #[s0, .val (.int i1), s2, s3, .val (.int i4), .val (.int i5), .val (.int (Int32.ofNat n)), s7, s8, .val (.ref o9), s10, s11, s12] [(.int (4 : Int32)), (.int (Int32.ofNat n))])) t → Steps p.tables e below (T0.setTop (mkF m 114 #[s0, .val (.int i1), s2, s3, .val (.int i4), .val (.int i5), .val (.int (Int32.ofNat n)), s7, s8, .val (.ref o9), s10, s11, s12] [])) t := fun t k => pre0 t (by
      show Steps p.tables e below (T0.setTop (mkF m 114 #[s0, .val (.int i1), s2, s3, .val (.int i4), .val (.int i5), .val (.int (Int32.ofNat n)), s7, s8, .val (.ref o9), s10, s11, s12] [])) _
      refine XS.iload X0.here hx rfl (hb hby at_114) rfl ?_
      show Steps p.tables e below (T0.setTop (mkF m 116 #[s0, .val (.int i1), s2, s3, .val (.int i4), .val (.int i5), .val (.int (Int32.ofNat n)), s7, s8, .val (.ref o9), s10, s11, s12] [(.int (Int32.ofNat n))])) _
      refine XS.iconst X0.here hx rfl (hb hby at_116) ?_
      show Steps p.tables e below (T0.setTop (mkF m 117 #[s0, .val (.int i1), s2, s3, .val (.int i4), .val (.int i5), .val (.int (Int32.ofNat n)), s7, s8, .val (.ref o9), s10, s11, s12] [(.int (4 : Int32)), (.int (Int32.ofNat n))])) _
      exact k)
  by_cases kk : (4 : Int32) < (Int32.ofNat n)
  · skip
    have q172 : ∀ t, Steps p.tables e below (T0.setTop (mkF m 129 #[s0, .val (.int i1), s2, s3, .val (.int i4), .val (.int i5), .val (.int (Int32.ofNat n)), s7, s8, .val (.ref o9), s10, s11, s12] [(.int i5), (.int i4), (.int (4 : Int32)), (.int i1), (.int (4 : Int32)), (.ref o9)])) t → Steps p.tables e below (T0.setTop (mkF m 114 #[s0, .val (.int i1), s2, s3, .val (.int i4), .val (.int i5), .val (.int (Int32.ofNat n)), s7, s8, .val (.ref o9), s10, s11, s12] [])) t := fun t k => q171 t (by
        show Steps p.tables e below (T0.setTop (mkF m 117 #[s0, .val (.int i1), s2, s3, .val (.int i4), .val (.int i5), .val (.int (Int32.ofNat n)), s7, s8, .val (.ref o9), s10, s11, s12] [(.int (4 : Int32)), (.int (Int32.ofNat n))])) _
        refine XS.icmpNo X0.here hx rfl (hb hby at_117) rfl (XT.ii_le_f (kk : (4 : Int32) < (Int32.ofNat n))) ?_
        show Steps p.tables e below (T0.setTop (mkF m 120 #[s0, .val (.int i1), s2, s3, .val (.int i4), .val (.int i5), .val (.int (Int32.ofNat n)), s7, s8, .val (.ref o9), s10, s11, s12] [])) _
        refine XS.aload X0.here hx rfl (hb hby at_120) rfl rfl ?_
        show Steps p.tables e below (T0.setTop (mkF m 122 #[s0, .val (.int i1), s2, s3, .val (.int i4), .val (.int i5), .val (.int (Int32.ofNat n)), s7, s8, .val (.ref o9), s10, s11, s12] [(.ref o9)])) _
        refine XS.iconst X0.here hx rfl (hb hby at_122) ?_
        show Steps p.tables e below (T0.setTop (mkF m 123 #[s0, .val (.int i1), s2, s3, .val (.int i4), .val (.int i5), .val (.int (Int32.ofNat n)), s7, s8, .val (.ref o9), s10, s11, s12] [(.int (4 : Int32)), (.ref o9)])) _
        refine XS.iloadN X0.here hx rfl (hb hby at_123) rfl ?_
        show Steps p.tables e below (T0.setTop (mkF m 124 #[s0, .val (.int i1), s2, s3, .val (.int i4), .val (.int i5), .val (.int (Int32.ofNat n)), s7, s8, .val (.ref o9), s10, s11, s12] [(.int i1), (.int (4 : Int32)), (.ref o9)])) _
        refine XS.iconst X0.here hx rfl (hb hby at_124) ?_
        show Steps p.tables e below (T0.setTop (mkF m 125 #[s0, .val (.int i1), s2, s3, .val (.int i4), .val (.int i5), .val (.int (Int32.ofNat n)), s7, s8, .val (.ref o9), s10, s11, s12] [(.int (4 : Int32)), (.int i1), (.int (4 : Int32)), (.ref o9)])) _
        refine XS.iload X0.here hx rfl (hb hby at_125) rfl ?_
        show Steps p.tables e below (T0.setTop (mkF m 127 #[s0, .val (.int i1), s2, s3, .val (.int i4), .val (.int i5), .val (.int (Int32.ofNat n)), s7, s8, .val (.ref o9), s10, s11, s12] [(.int i4), (.int (4 : Int32)), (.int i1), (.int (4 : Int32)), (.ref o9)])) _
        refine XS.iload X0.here hx rfl (hb hby at_127) rfl ?_
        show Steps p.tables e below (T0.setTop (mkF m 129 #[s0, .val (.int i1), s2, s3, .val (.int i4), .val (.int i5), .val (.int (Int32.ofNat n)), s7, s8, .val (.ref o9), s10, s11, s12] [(.int i5), (.int i4), (.int (4 : Int32)), (.int i1), (.int (4 : Int32)), (.ref o9)])) _
        exact k)
    obtain ⟨_, _, ⟨T173, L173, kk173, nn173⟩, -, X173, ⟨Lc173, hQ173, l173, y173, z173⟩, st173⟩ := Jvm.LawKit.callS X0 hx (y := (⟨"com/example/orbweaver/orbweaver/store/GzipMembersIndexOfPinLaw", "pick", "(IIBB)B"⟩ : MethodName)) hown (mvT hZ (hw _ (List.mem_of_getElem? (i := 2) rfl))) (mvT hZ (hw _ (List.mem_of_getElem? (i := 3) rfl))) (mvT hZ (hw _ (List.mem_of_getElem? (i := 4) rfl))) (mvT hZ (hw _ (List.mem_of_getElem? (i := 5) rfl))) (by decide) (backOf (W := 2) (rm1 l Z a0 hw [] i1 (4 : Int32) i4 i5 h0 n0 Z0) hZ (hw _ (List.mem_of_getElem? (i := 5) rfl)) (hw _ (List.mem_of_getElem? (i := 4) rfl)) (by decide) (by decide)) (g := (mkF m 129 #[s0, .val (.int i1), s2, s3, .val (.int i4), .val (.int i5), .val (.int (Int32.ofNat n)), s7, s8, .val (.ref o9), s10, s11, s12] [(.int i5), (.int i4), (.int (4 : Int32)), (.int i1), (.int (4 : Int32)), (.ref o9)])) rfl (by rw [hml]; rfl) (argsL := [(.int i1), (.int (4 : Int32)), (.int i4), (.int i5)]) (rest := [(.int (4 : Int32)), (.ref o9)]) (lenOf pd__IIBB_B rfl) rfl (by show 2 * 0 + _ ≤ _; exact Nat.le_of_eq rfl) (hb hby at_129) (fun _ _ => ⟨rfl, e0, (by decide : 1 + 0 ≤ _), (by decide : 7 + 0 ≤ _)⟩)
    dsimp only [Pt.U, Pt.locs, Pt.cells, Pt.slots] at X173 l173 y173 z173 st173 hQ173
    subst l173 y173 z173
    obtain ⟨rfl, Nq173, e173⟩ := hQ173
    have N173 := Fr.app N0 Nq173
    have q174 : ∀ t, Steps p.tables e below (T173.setTop (mkF m 132 #[s0, .val (.int i1), s2, s3, .val (.int i4), .val (.int i5), .val (.int (Int32.ofNat n)), s7, s8, .val (.ref o9), s10, s11, s12] [(.int (own_pk i1 (4 : Int32) i4 i5)), (.int (4 : Int32)), (.ref o9)])) t → Steps p.tables e below (T0.setTop (mkF m 114 #[s0, .val (.int i1), s2, s3, .val (.int i4), .val (.int i5), .val (.int (Int32.ofNat n)), s7, s8, .val (.ref o9), s10, s11, s12] [])) t := fun t k => q172 t (st173 t k)
    obtain ⟨cl, Ar, S, M, H⟩ := B
    obtain ⟨T175, h175, X175, e175, W175, st175⟩ := stB X173 hx hZ e173 (Ar) (j := (4 : Int32)) (inb_of S ⟨by decide, kk⟩) (g := (mkF m 132 #[s0, .val (.int i1), s2, s3, .val (.int i4), .val (.int i5), .val (.int (Int32.ofNat n)), s7, s8, .val (.ref o9), s10, s11, s12] [(.int (own_pk i1 (4 : Int32) i4 i5)), (.int (4 : Int32)), (.ref o9)])) rfl rfl (hb hby at_132)
    have N175 := Fr.snoc X175 N173 (g9)
    have q176 : ∀ t, Steps p.tables e below (T175.setTop (mkF m 133 #[s0, .val (.int i1), s2, s3, .val (.int i4), .val (.int i5), .val (.int (Int32.ofNat n)), s7, s8, .val (.ref o9), s10, s11, s12] [])) t → Steps p.tables e below (T0.setTop (mkF m 114 #[s0, .val (.int i1), s2, s3, .val (.int i4), .val (.int i5), .val (.int (Int32.ofNat n)), s7, s8, .val (.ref o9), s10, s11, s12] [])) t := fun t k => q174 t (st175 t k)
    have Z175 : n0 ≤ h175.size := Nat.le_trans Z0 (Keep.of_wr W175).1
    exact ⟨_, _, _, _, X175, e175, N175, Z175, Bt.set Ar S M H W175, q176⟩
  · skip
    have q177 : ∀ t, Steps p.tables e below (T0.setTop (mkF m 133 #[s0, .val (.int i1), s2, s3, .val (.int i4), .val (.int i5), .val (.int (Int32.ofNat n)), s7, s8, .val (.ref o9), s10, s11, s12] [])) t → Steps p.tables e below (T0.setTop (mkF m 114 #[s0, .val (.int i1), s2, s3, .val (.int i4), .val (.int i5), .val (.int (Int32.ofNat n)), s7, s8, .val (.ref o9), s10, s11, s12] [])) t := fun t k => q171 t (by
        show Steps p.tables e below (T0.setTop (mkF m 117 #[s0, .val (.int i1), s2, s3, .val (.int i4), .val (.int i5), .val (.int (Int32.ofNat n)), s7, s8, .val (.ref o9), s10, s11, s12] [(.int (4 : Int32)), (.int (Int32.ofNat n))])) _
        refine XS.icmpYes X0.here hx rfl (pc0 := 117) (pc' := 133) rfl (hb hby at_117) rfl (XT.ii_le_t (kk : ¬ ((4 : Int32) < (Int32.ofNat n)))) (by decide) (by decide) ?_
        show Steps p.tables e below (T0.setTop (mkF m 133 #[s0, .val (.int i1), s2, s3, .val (.int i4), .val (.int i5), .val (.int (Int32.ofNat n)), s7, s8, .val (.ref o9), s10, s11, s12] [])) _
        exact k)
    exact ⟨_, _, _, _, X0, e0, N0, Z0, B, q177⟩
set_option maxRecDepth 65536 in
set_option maxHeartbeats 40000000 in
theorem sb5 {p : Program} {l : Launch} {e : Env} {s : State} {m : MethodId} {args : Array Value} {below : List Frame} {meth : Method} {c : Code} {T0 : State} {locs : List Loc} {Z : State} {a0 : Array Value} {h0 : Heap} (s0 : Slot) (i1 : Int32) (s2 s3 : Slot) (i4 i5 : Int32) (s7 s8 : Slot) (o9 : Addr) (s10 s11 s12 : Slot) (n : Nat) (f : Nat → Int32) (n0 : Nat)
    (X0 : Stand p l e room_1 s m args below meth c T0 locs 1 7) (hx : p.tables.exec = Jvm.exec) (hZ : Z.Warmed39 s.vm) (hw : ∀ d ∈ tables_1, d.before a0 Z = true) (hby : c.code = code) (hml : c.maxLocals = 13) (hown : s.vm.findClass "com/example/orbweaver/orbweaver/store/GzipMembersIndexOfPinLaw" = some m.cls) (e0 : T0.heap = h0) (Z0 : n0 ≤ h0.size) (N0 : Fr n0 locs) (g9 : n0 ≤ o9) (B : Bt Z h0 o9 (Int32.ofNat n) f) :
    ∃ (T' : State) (h' : Heap) (locs' : List Loc) (f' : Nat → Int32), Stand p l e room_1 s m args below meth c T' locs' 1 7 ∧ T'.heap = h' ∧ Fr n0 locs' ∧ n0 ≤ h'.size ∧ Bt Z h' o9 (Int32.ofNat n) f' ∧ ∀ t, Steps p.tables e below (T'.setTop (mkF m 152 #[s0, .val (.int i1), s2, s3, .val (.int i4), .val (.int i5), .val (.int (Int32.ofNat n)), s7, s8, .val (.ref o9), s10, s11, s12] [])) t → Steps p.tables e below (T0.setTop (mkF m 133 #[s0, .val (.int i1), s2, s3, .val (.int i4), .val (.int i5), .val (.int (Int32.ofNat n)), s7, s8, .val (.ref o9), s10, s11, s12] [])) t := by
  have pre0 : ∀ t, Steps p.tables e below (T0.setTop (mkF m 133 #[s0, .val (.int i1), s2, s3, .val (.int i4), .val (.int i5), .val (.int (Int32.ofNat n)), s7, s8, .val (.ref o9), s10, s11, s12] [])) t → Steps p.tables e below (T0.setTop (mkF m 133 #[s0, .val (.int i1), s2, s3, .val (.int i4), .val (.int i5), .val (.int (Int32.ofNat n)), s7, s8, .val (.ref o9), s10, s11, s12] [])) t := fun t k => k
  have q178 : ∀ t, Steps p.tables e below (T0.setTop (mkF m 136 #[s0, .val (.int i1), s2, s3, .val (.int i4), .val (.int i5), .val (.int (Int32.ofNat n)), s7, s8, .val (.ref o9), s10, s11, s12] [(.int (5 : Int32)), (.int (Int32.ofNat n))])) t → Steps p.tables e below (T0.setTop (mkF m 133 #[s0, .val (.int i1), s2, s3, .val (.int i4), .val (.int i5), .val (.int (Int32.ofNat n)), s7, s8, .val (.ref o9), s10, s11, s12] [])) t := fun t k => pre0 t (by
      show Steps p.tables e below (T0.setTop (mkF m 133 #[s0, .val (.int i1), s2, s3, .val (.int i4), .val (.int i5), .val (.int (Int32.ofNat n)), s7, s8, .val (.ref o9), s10, s11, s12] [])) _
      refine XS.iload X0.here hx rfl (hb hby at_133) rfl ?_
      show Steps p.tables e below (T0.setTop (mkF m 135 #[s0, .val (.int i1), s2, s3, .val (.int i4), .val (.int i5), .val (.int (Int32.ofNat n)), s7, s8, .val (.ref o9), s10, s11, s12] [(.int (Int32.ofNat n))])) _
      refine XS.iconst X0.here hx rfl (hb hby at_135) ?_
      show Steps p.tables e below (T0.setTop (mkF m 136 #[s0, .val (.int i1), s2, s3, .val (.int i4), .val (.int i5), .val (.int (Int32.ofNat n)), s7, s8, .val (.ref o9), s10, s11, s12] [(.int (5 : Int32)), (.int (Int32.ofNat n))])) _
      exact k)
  by_cases kk : (5 : Int32) < (Int32.ofNat n)
  · skip
    have q179 : ∀ t, Steps p.tables e below (T0.setTop (mkF m 148 #[s0, .val (.int i1), s2, s3, .val (.int i4), .val (.int i5), .val (.int (Int32.ofNat n)), s7, s8, .val (.ref o9), s10, s11, s12] [(.int i5), (.int i4), (.int (5 : Int32)), (.int i1), (.int (5 : Int32)), (.ref o9)])) t → Steps p.tables e below (T0.setTop (mkF m 133 #[s0, .val (.int i1), s2, s3, .val (.int i4), .val (.int i5), .val (.int (Int32.ofNat n)), s7, s8, .val (.ref o9), s10, s11, s12] [])) t := fun t k => q178 t (by
        show Steps p.tables e below (T0.setTop (mkF m 136 #[s0, .val (.int i1), s2, s3, .val (.int i4), .val (.int i5), .val (.int (Int32.ofNat n)), s7, s8, .val (.ref o9), s10, s11, s12] [(.int (5 : Int32)), (.int (Int32.ofNat n))])) _
        refine XS.icmpNo X0.here hx rfl (hb hby at_136) rfl (XT.ii_le_f (kk : (5 : Int32) < (Int32.ofNat n))) ?_
        show Steps p.tables e below (T0.setTop (mkF m 139 #[s0, .val (.int i1), s2, s3, .val (.int i4), .val (.int i5), .val (.int (Int32.ofNat n)), s7, s8, .val (.ref o9), s10, s11, s12] [])) _
        refine XS.aload X0.here hx rfl (hb hby at_139) rfl rfl ?_
        show Steps p.tables e below (T0.setTop (mkF m 141 #[s0, .val (.int i1), s2, s3, .val (.int i4), .val (.int i5), .val (.int (Int32.ofNat n)), s7, s8, .val (.ref o9), s10, s11, s12] [(.ref o9)])) _
        refine XS.iconst X0.here hx rfl (hb hby at_141) ?_
        show Steps p.tables e below (T0.setTop (mkF m 142 #[s0, .val (.int i1), s2, s3, .val (.int i4), .val (.int i5), .val (.int (Int32.ofNat n)), s7, s8, .val (.ref o9), s10, s11, s12] [(.int (5 : Int32)), (.ref o9)])) _
        refine XS.iloadN X0.here hx rfl (hb hby at_142) rfl ?_
        show Steps p.tables e below (T0.setTop (mkF m 143 #[s0, .val (.int i1), s2, s3, .val (.int i4), .val (.int i5), .val (.int (Int32.ofNat n)), s7, s8, .val (.ref o9), s10, s11, s12] [(.int i1), (.int (5 : Int32)), (.ref o9)])) _
        refine XS.iconst X0.here hx rfl (hb hby at_143) ?_
        show Steps p.tables e below (T0.setTop (mkF m 144 #[s0, .val (.int i1), s2, s3, .val (.int i4), .val (.int i5), .val (.int (Int32.ofNat n)), s7, s8, .val (.ref o9), s10, s11, s12] [(.int (5 : Int32)), (.int i1), (.int (5 : Int32)), (.ref o9)])) _
        refine XS.iload X0.here hx rfl (hb hby at_144) rfl ?_
        show Steps p.tables e below (T0.setTop (mkF m 146 #[s0, .val (.int i1), s2, s3, .val (.int i4), .val (.int i5), .val (.int (Int32.ofNat n)), s7, s8, .val (.ref o9), s10, s11, s12] [(.int i4), (.int (5 : Int32)), (.int i1), (.int (5 : Int32)), (.ref o9)])) _
        refine XS.iload X0.here hx rfl (hb hby at_146) rfl ?_
        show Steps p.tables e below (T0.setTop (mkF m 148 #[s0, .val (.int i1), s2, s3, .val (.int i4), .val (.int i5), .val (.int (Int32.ofNat n)), s7, s8, .val (.ref o9), s10, s11, s12] [(.int i5), (.int i4), (.int (5 : Int32)), (.int i1), (.int (5 : Int32)), (.ref o9)])) _
        exact k)
    obtain ⟨_, _, ⟨T180, L180, kk180, nn180⟩, -, X180, ⟨Lc180, hQ180, l180, y180, z180⟩, st180⟩ := Jvm.LawKit.callS X0 hx (y := (⟨"com/example/orbweaver/orbweaver/store/GzipMembersIndexOfPinLaw", "pick", "(IIBB)B"⟩ : MethodName)) hown (mvT hZ (hw _ (List.mem_of_getElem? (i := 2) rfl))) (mvT hZ (hw _ (List.mem_of_getElem? (i := 3) rfl))) (mvT hZ (hw _ (List.mem_of_getElem? (i := 4) rfl))) (mvT hZ (hw _ (List.mem_of_getElem? (i := 5) rfl))) (by decide) (backOf (W := 2) (rm1 l Z a0 hw [] i1 (5 : Int32) i4 i5 h0 n0 Z0) hZ (hw _ (List.mem_of_getElem? (i := 5) rfl)) (hw _ (List.mem_of_getElem? (i := 4) rfl)) (by decide) (by decide)) (g := (mkF m 148 #[s0, .val (.int i1), s2, s3, .val (.int i4), .val (.int i5), .val (.int (Int32.ofNat n)), s7, s8, .val (.ref o9), s10, s11, s12] [(.int i5), (.int i4), (.int (5 : Int32)), (.int i1), (.int (5 : Int32)), (.ref o9)])) rfl (by rw [hml]; rfl) (argsL := [(.int i1), (.int (5 : Int32)), (.int i4), (.int i5)]) (rest := [(.int (5 : Int32)), (.ref o9)]) (lenOf pd__IIBB_B rfl) rfl (by show 2 * 0 + _ ≤ _; exact Nat.le_of_eq rfl) (hb hby at_148) (fun _ _ => ⟨rfl, e0, (by decide : 1 + 0 ≤ _), (by decide : 7 + 0 ≤ _)⟩)
    dsimp only [Pt.U, Pt.locs, Pt.cells, Pt.slots] at X180 l180 y180 z180 st180 hQ180
    subst l180 y180 z180
    obtain ⟨rfl, Nq180, e180⟩ := hQ180
    have N180 := Fr.app N0 Nq180
    have q181 : ∀ t, Steps p.tables e below (T180.setTop (mkF m 151 #[s0, .val (.int i1), s2, s3, .val (.int i4), .val (.int i5), .val (.int (Int32.ofNat n)), s7, s8, .val (.ref o9), s10, s11, s12] [(.int (own_pk i1 (5 : Int32) i4 i5)), (.int (5 : Int32)), (.ref o9)])) t → Steps p.tables e below (T0.setTop (mkF m 133 #[s0, .val (.int i1), s2, s3, .val (.int i4), .val (.int i5), .val (.int (Int32.ofNat n)), s7, s8, .val (.ref o9), s10, s11, s12] [])) t := fun t k => q179 t (st180 t k)
    obtain ⟨cl, Ar, S, M, H⟩ := B
    obtain ⟨T182, h182, X182, e182, W182, st182⟩ := stB X180 hx hZ e180 (Ar) (j := (5 : Int32)) (inb_of S ⟨by decide, kk⟩) (g := (mkF m 151 #[s0, .val (.int i1), s2, s3, .val (.int i4), .val (.int i5), .val (.int (Int32.ofNat n)), s7, s8, .val (.ref o9), s10, s11, s12] [(.int (own_pk i1 (5 : Int32) i4 i5)), (.int (5 : Int32)), (.ref o9)])) rfl rfl (hb hby at_151)
    have N182 := Fr.snoc X182 N180 (g9)
    have q183 : ∀ t, Steps p.tables e below (T182.setTop (mkF m 152 #[s0, .val (.int i1), s2, s3, .val (.int i4), .val (.int i5), .val (.int (Int32.ofNat n)), s7, s8, .val (.ref o9), s10, s11, s12] [])) t → Steps p.tables e below (T0.setTop (mkF m 133 #[s0, .val (.int i1), s2, s3, .val (.int i4), .val (.int i5), .val (.int (Int32.ofNat n)), s7, s8, .val (.ref o9), s10, s11, s12] [])) t := fun t k => q181 t (st182 t k)
    have Z182 : n0 ≤ h182.size := Nat.le_trans Z0 (Keep.of_wr W182).1
    exact ⟨_, _, _, _, X182, e182, N182, Z182, Bt.set Ar S M H W182, q183⟩
  · skip
    have q184 : ∀ t, Steps p.tables e below (T0.setTop (mkF m 152 #[s0, .val (.int i1), s2, s3, .val (.int i4), .val (.int i5), .val (.int (Int32.ofNat n)), s7, s8, .val (.ref o9), s10, s11, s12] [])) t → Steps p.tables e below (T0.setTop (mkF m 133 #[s0, .val (.int i1), s2, s3, .val (.int i4), .val (.int i5), .val (.int (Int32.ofNat n)), s7, s8, .val (.ref o9), s10, s11, s12] [])) t := fun t k => q178 t (by
        show Steps p.tables e below (T0.setTop (mkF m 136 #[s0, .val (.int i1), s2, s3, .val (.int i4), .val (.int i5), .val (.int (Int32.ofNat n)), s7, s8, .val (.ref o9), s10, s11, s12] [(.int (5 : Int32)), (.int (Int32.ofNat n))])) _
        refine XS.icmpYes X0.here hx rfl (pc0 := 136) (pc' := 152) rfl (hb hby at_136) rfl (XT.ii_le_t (kk : ¬ ((5 : Int32) < (Int32.ofNat n)))) (by decide) (by decide) ?_
        show Steps p.tables e below (T0.setTop (mkF m 152 #[s0, .val (.int i1), s2, s3, .val (.int i4), .val (.int i5), .val (.int (Int32.ofNat n)), s7, s8, .val (.ref o9), s10, s11, s12] [])) _
        exact k)
    exact ⟨_, _, _, _, X0, e0, N0, Z0, B, q184⟩
set_option maxRecDepth 65536 in
set_option maxHeartbeats 40000000 in
theorem sb6 {p : Program} {l : Launch} {e : Env} {s : State} {m : MethodId} {args : Array Value} {below : List Frame} {meth : Method} {c : Code} {T0 : State} {locs : List Loc} {Z : State} {a0 : Array Value} {h0 : Heap} (s0 : Slot) (i1 : Int32) (s2 s3 : Slot) (i4 i5 : Int32) (s7 s8 : Slot) (o9 : Addr) (s10 s11 s12 : Slot) (n : Nat) (f : Nat → Int32) (n0 : Nat)
    (X0 : Stand p l e room_1 s m args below meth c T0 locs 1 7) (hx : p.tables.exec = Jvm.exec) (hZ : Z.Warmed39 s.vm) (hw : ∀ d ∈ tables_1, d.before a0 Z = true) (hby : c.code = code) (hml : c.maxLocals = 13) (hown : s.vm.findClass "com/example/orbweaver/orbweaver/store/GzipMembersIndexOfPinLaw" = some m.cls) (e0 : T0.heap = h0) (Z0 : n0 ≤ h0.size) (N0 : Fr n0 locs) (g9 : n0 ≤ o9) (B : Bt Z h0 o9 (Int32.ofNat n) f) :
    ∃ (T' : State) (h' : Heap) (locs' : List Loc) (f' : Nat → Int32), Stand p l e room_1 s m args below meth c T' locs' 1 7 ∧ T'.heap = h' ∧ Fr n0 locs' ∧ n0 ≤ h'.size ∧ Bt Z h' o9 (Int32.ofNat n) f' ∧ ∀ t, Steps p.tables e below (T'.setTop (mkF m 174 #[s0, .val (.int i1), s2, s3, .val (.int i4), .val (.int i5), .val (.int (Int32.ofNat n)), s7, s8, .val (.ref o9), s10, s11, s12] [])) t → Steps p.tables e below (T0.setTop (mkF m 152 #[s0, .val (.int i1), s2, s3, .val (.int i4), .val (.int i5), .val (.int (Int32.ofNat n)), s7, s8, .val (.ref o9), s10, s11, s12] [])) t := by
  have pre0 : ∀ t, Steps p.tables e below (T0.setTop (mkF m 152 #[s0, .val (.int i1), s2, s3, .val (.int i4), .val (.int i5), .val (.int (Int32.ofNat n)), s7, s8, .val (.ref o9), s10, s11, s12] [])) t → Steps p.tables e below (T0.setTop (mkF m 152 #[s0, .val (.int i1), s2, s3, .val (.int i4), .val (.int i5), .val (.int (Int32.ofNat n)), s7, s8, .val (.ref o9), s10, s11, s12] [])) t := fun t k => k
  have q185 : ∀ t, Steps p.tables e below (T0.setTop (mkF m 156 #[s0, .val (.int i1), s2, s3, .val (.int i4), .val (.int i5), .val (.int (Int32.ofNat n)), s7, s8, .val (.ref o9), s10, s11, s12] [(.int (6 : Int32)), (.int (Int32.ofNat n))])) t → Steps p.tables e below (T0.setTop (mkF m 152 #[s0, .val (.int i1), s2, s3, .val (.int i4), .val (.int i5), .val (.int (Int32.ofNat n)), s7, s8, .val (.ref o9), s10, s11, s12] [])) t := fun t k => pre0 t (by
      show Steps p.tables e below (T0.setTop (mkF m 152 #[s0, .val (.int i1), s2, s3, .val (.int i4), .val (.int i5), .val (.int (Int32.ofNat n)), s7, s8, .val (.ref o9), s10, s11, s12] [])) _
      refine XS.iload X0.here hx rfl (hb hby at_152) rfl ?_
      show Steps p.tables e below (T0.setTop (mkF m 154 #[s0, .val (.int i1), s2, s3, .val (.int i4), .val (.int i5), .val (.int (Int32.ofNat n)), s7, s8, .val (.ref o9), s10, s11, s12] [(.int (Int32.ofNat n))])) _
      refine XS.bipush X0.here hx rfl (hb hby at_154) ?_
      show Steps p.tables e below (T0.setTop (mkF m 156 #[s0, .val (.int i1), s2, s3, .val (.int i4), .val (.int i5), .val (.int (Int32.ofNat n)), s7, s8, .val (.ref o9), s10, s11, s12] [(.int (6 : Int32)), (.int (Int32.ofNat n))])) _
      exact k)
  by_cases kk : (6 : Int32) < (Int32.ofNat n)
  · skip
    have q186 : ∀ t, Steps p.tables e below (T0.setTop (mkF m 170 #[s0, .val (.int i1), s2, s3, .val (.int i4), .val (.int i5), .val (.int (Int32.ofNat n)), s7, s8, .val (.ref o9), s10, s11, s12] [(.int i5), (.int i4), (.int (6 : Int32)), (.int i1), (.int (6 : Int32)), (.ref o9)])) t → Steps p.tables e below (T0.setTop (mkF m 152 #[s0, .val (.int i1), s2, s3, .val (.int i4), .val (.int i5), .val (.int (Int32.ofNat n)), s7, s8, .val (.ref o9), s10, s11, s12] [])) t := fun t k => q185 t (by
        show Steps p.tables e below (T0.setTop (mkF m 156 #[s0, .val (.int i1), s2, s3, .val (.int i4), .val (.int i5), .val (.int (Int32.ofNat n)), s7, s8, .val (.ref o9), s10, s11, s12] [(.int (6 : Int32)), (.int (Int32.ofNat n))])) _
        refine XS.icmpNo X0.here hx rfl (hb hby at_156) rfl (XT.ii_le_f (kk : (6 : Int32) < (Int32.ofNat n))) ?_
        show Steps p.tables e below (T0.setTop (mkF m 159 #[s0, .val (.int i1), s2, s3, .val (.int i4), .val (.int i5), .val (.int (Int32.ofNat n)), s7, s8, .val (.ref o9), s10, s11, s12] [])) _
        refine XS.aload X0.here hx rfl (hb hby at_159) rfl rfl ?_
        show Steps p.tables e below (T0.setTop (mkF m 161 #[s0, .val (.int i1), s2, s3, .val (.int i4), .val (.int i5), .val (.int (Int32.ofNat n)), s7, s8, .val (.ref o9), s10, s11, s12] [(.ref o9)])) _
        refine XS.bipush X0.here hx rfl (hb hby at_161) ?_
        show Steps p.tables e below (T0.setTop (mkF m 163 #[s0, .val (.int i1), s2, s3, .val (.int i4), .val (.int i5), .val (.int (Int32.ofNat n)), s7, s8, .val (.ref o9), s10, s11, s12] [(.int (6 : Int32)), (.ref o9)])) _
        refine XS.iloadN X0.here hx rfl (hb hby at_163) rfl ?_
        show Steps p.tables e below (T0.setTop (mkF m 164 #[s0, .val (.int i1), s2, s3, .val (.int i4), .val (.int i5), .val (.int (Int32.ofNat n)), s7, s8, .val (.ref o9), s10, s11, s12] [(.int i1), (.int (6 : Int32)), (.ref o9)])) _
        refine XS.bipush X0.here hx rfl (hb hby at_164) ?_
        show Steps p.tables e below (T0.setTop (mkF m 166 #[s0, .val (.int i1), s2, s3, .val (.int i4), .val (.int i5), .val (.int (Int32.ofNat n)), s7, s8, .val (.ref o9), s10, s11, s12] [(.int (6 : Int32)), (.int i1), (.int (6 : Int32)), (.ref o9)])) _
        refine XS.iload X0.here hx rfl (hb hby at_166) rfl ?_
        show Steps p.tables e below (T0.setTop (mkF m 168 #[s0, .val (.int i1), s2, s3, .val (.int i4), .val (.int i5), .val (.int (Int32.ofNat n)), s7, s8, .val (.ref o9), s10, s11, s12] [(.int i4), (.int (6 : Int32)), (.int i1), (.int (6 : Int32)), (.ref o9)])) _
        refine XS.iload X0.here hx rfl (hb hby at_168) rfl ?_
        show Steps p.tables e below (T0.setTop (mkF m 170 #[s0, .val (.int i1), s2, s3, .val (.int i4), .val (.int i5), .val (.int (Int32.ofNat n)), s7, s8, .val (.ref o9), s10, s11, s12] [(.int i5), (.int i4), (.int (6 : Int32)), (.int i1), (.int (6 : Int32)), (.ref o9)])) _
        exact k)
    obtain ⟨_, _, ⟨T187, L187, kk187, nn187⟩, -, X187, ⟨Lc187, hQ187, l187, y187, z187⟩, st187⟩ := Jvm.LawKit.callS X0 hx (y := (⟨"com/example/orbweaver/orbweaver/store/GzipMembersIndexOfPinLaw", "pick", "(IIBB)B"⟩ : MethodName)) hown (mvT hZ (hw _ (List.mem_of_getElem? (i := 2) rfl))) (mvT hZ (hw _ (List.mem_of_getElem? (i := 3) rfl))) (mvT hZ (hw _ (List.mem_of_getElem? (i := 4) rfl))) (mvT hZ (hw _ (List.mem_of_getElem? (i := 5) rfl))) (by decide) (backOf (W := 2) (rm1 l Z a0 hw [] i1 (6 : Int32) i4 i5 h0 n0 Z0) hZ (hw _ (List.mem_of_getElem? (i := 5) rfl)) (hw _ (List.mem_of_getElem? (i := 4) rfl)) (by decide) (by decide)) (g := (mkF m 170 #[s0, .val (.int i1), s2, s3, .val (.int i4), .val (.int i5), .val (.int (Int32.ofNat n)), s7, s8, .val (.ref o9), s10, s11, s12] [(.int i5), (.int i4), (.int (6 : Int32)), (.int i1), (.int (6 : Int32)), (.ref o9)])) rfl (by rw [hml]; rfl) (argsL := [(.int i1), (.int (6 : Int32)), (.int i4), (.int i5)]) (rest := [(.int (6 : Int32)), (.ref o9)]) (lenOf pd__IIBB_B rfl) rfl (by show 2 * 0 + _ ≤ _; exact Nat.le_of_eq rfl) (hb hby at_170) (fun _ _ => ⟨rfl, e0, (by decide : 1 + 0 ≤ _), (by decide : 7 + 0 ≤ _)⟩)
    dsimp only [Pt.U, Pt.locs, Pt.cells, Pt.slots] at X187 l187 y187 z187 st187 hQ187
    subst l187 y187 z187
    obtain ⟨rfl, Nq187, e187⟩ := hQ187
    have N187 := Fr.app N0 Nq187
    have q188 : ∀ t, Steps p.tables e below (T187.setTop (mkF m 173 #[s0, .val (.int i1), s2, s3, .val (.int i4), .val (.int i5), .val (.int (Int32.ofNat n)), s7, s8, .val (.ref o9), s10, s11, s12] [(.int (own_pk i1 (6 : Int32) i4 i5)), (.int (6 : Int32)), (.ref o9)])) t → Steps p.tables e below (T0.setTop (mkF m 152 #[s0, .val (.int i1), s2, s3, .val (.int i4), .val (.int i5), .val (.int (Int32.ofNat n)), s7, s8, .val (.ref o9), s10, s11, s12] [])) t := fun t k => q186 t (st187 t k)
    obtain ⟨cl, Ar, S, M, H⟩ := B
    obtain ⟨T189, h189, X189, e189, W189, st189⟩ := stB X187 hx hZ e187 (Ar) (j := (6 : Int32)) (inb_of S ⟨by decide, kk⟩) (g := (mkF m 173 #[s0, .val (.int i1), s2, s3, .val (.int i4), .val (.int i5), .val (.int (Int32.ofNat n)), s7, s8, .val (.ref o9), s10, s11, s12] [(.int (own_pk i1 (6 : Int32) i4 i5)), (.int (6 : Int32)), (.ref o9)])) rfl rfl (hb hby at_173)
    have N189 := Fr.snoc X189 N187 (g9)
    have q190 : ∀ t, Steps p.tables e below (T189.setTop (mkF m 174 #[s0, .val (.int i1), s2, s3, .val (.int i4), .val (.int i5), .val (.int (Int32.ofNat n)), s7, s8, .val (.ref o9), s10, s11, s12] [])) t → Steps p.tables e below (T0.setTop (mkF m 152 #[s0, .val (.int i1), s2, s3, .val (.int i4), .val (.int i5), .val (.int (Int32.ofNat n)), s7, s8, .val (.ref o9), s10, s11, s12] [])) t := fun t k => q188 t (st189 t k)
    have Z189 : n0 ≤ h189.size := Nat.le_trans Z0 (Keep.of_wr W189).1
    exact ⟨_, _, _, _, X189, e189, N189, Z189, Bt.set Ar S M H W189, q190⟩
  · skip
    have q191 : ∀ t, Steps p.tables e below (T0.setTop (mkF m 174 #[s0, .val (.int i1), s2, s3, .val (.int i4), .val (.int i5), .val (.int (Int32.ofNat n)), s7, s8, .val (.ref o9), s10, s11, s12] [])) t → Steps p.tables e below (T0.setTop (mkF m 152 #[s0, .val (.int i1), s2, s3, .val (.int i4), .val (.int i5), .val (.int (Int32.ofNat n)), s7, s8, .val (.ref o9), s10, s11, s12] [])) t := fun t k => q185 t (by
        show Steps p.tables e below (T0.setTop (mkF m 156 #[s0, .val (.int i1), s2, s3, .val (.int i4), .val (.int i5), .val (.int (Int32.ofNat n)), s7, s8, .val (.ref o9), s10, s11, s12] [(.int (6 : Int32)), (.int (Int32.ofNat n))])) _
        refine XS.icmpYes X0.here hx rfl (pc0 := 156) (pc' := 174) rfl (hb hby at_156) rfl (XT.ii_le_t (kk : ¬ ((6 : Int32) < (Int32.ofNat n)))) (by decide) (by decide) ?_
        show Steps p.tables e below (T0.setTop (mkF m 174 #[s0, .val (.int i1), s2, s3, .val (.int i4), .val (.int i5), .val (.int (Int32.ofNat n)), s7, s8, .val (.ref o9), s10, s11, s12] [])) _
        exact k)
    exact ⟨_, _, _, _, X0, e0, N0, Z0, B, q191⟩
set_option maxRecDepth 65536 in
set_option maxHeartbeats 40000000 in
theorem ss0 {p : Program} {l : Launch} {e : Env} {s : State} {m : MethodId} {args : Array Value} {below : List Frame} {meth : Method} {c : Code} {T0 : State} {locs : List Loc} {Z : State} {a0 : Array Value} {h0 : Heap} (s0 : Slot) (i1 : Int32) (s2 s3 : Slot) (i4 i5 : Int32) (s6 s8 : Slot) (o9 o10 : Addr) (s11 s12 : Slot) (n mm : Nat) (f g : Nat → Int32) (n0 : Nat)
    (X0 : Stand p l e room_1 s m args below meth c T0 locs 2 10) (hx : p.tables.exec = Jvm.exec) (hZ : Z.Warmed39 s.vm) (hw : ∀ d ∈ tables_1, d.before a0 Z = true) (hby : c.code = code) (hml : c.maxLocals = 13) (hown : s.vm.findClass "com/example/orbweaver/orbweaver/store/GzipMembersIndexOfPinLaw" = some m.cls) (e0 : T0.heap = h0) (Z0 : n0 ≤ h0.size) (N0 : Fr n0 locs) (g10 : n0 ≤ o10) (ne : o9 ≠ o10) (Bf : Bt Z h0 o9 (Int32.ofNat n) f) (Bg : Bt Z h0 o10 (Int32.ofNat mm) g) :
    ∃ (T' : State) (h' : Heap) (locs' : List Loc) (g' : Nat → Int32), Stand p l e room_1 s m args below meth c T' locs' 2 10 ∧ T'.heap = h' ∧ Fr n0 locs' ∧ n0 ≤ h'.size ∧ Bt Z h' o9 (Int32.ofNat n) f ∧ Bt Z h' o10 (Int32.ofNat mm) g' ∧ ∀ t, Steps p.tables e below (T'.setTop (mkF m 199 #[s0, .val (.int i1), s2, s3, .val (.int i4), .val (.int i5), s6, .val (.int (Int32.ofNat mm)), s8, .val (.ref o9), .val (.ref o10), s11, s12] [])) t → Steps p.tables e below (T0.setTop (mkF m 180 #[s0, .val (.int i1), s2, s3, .val (.int i4), .val (.int i5), s6, .val (.int (Int32.ofNat mm)), s8, .val (.ref o9), .val (.ref o10), s11, s12] [])) t := by
  have pre0 : ∀ t, Steps p.tables e below (T0.setTop (mkF m 180 #[s0, .val (.int i1), s2, s3, .val (.int i4), .val (.int i5), s6, .val (.int (Int32.ofNat mm)), s8, .val (.ref o9), .val (.ref o10), s11, s12] [])) t → Steps p.tables e below (T0.setTop (mkF m 180 #[s0, .val (.int i1), s2, s3, .val (.int i4), .val (.int i5), s6, .val (.int (Int32.ofNat mm)), s8, .val (.ref o9), .val (.ref o10), s11, s12] [])) t := fun t k => k
  have q192 : ∀ t, Steps p.tables e below (T0.setTop (mkF m 182 #[s0, .val (.int i1), s2, s3, .val (.int i4), .val (.int i5), s6, .val (.int (Int32.ofNat mm)), s8, .val (.ref o9), .val (.ref o10), s11, s12] [(.int (Int32.ofNat mm))])) t → Steps p.tables e below (T0.setTop (mkF m 180 #[s0, .val (.int i1), s2, s3, .val (.int i4), .val (.int i5), s6, .val (.int (Int32.ofNat mm)), s8, .val (.ref o9), .val (.ref o10), s11, s12] [])) t := fun t k => pre0 t (by
      show Steps p.tables e below (T0.setTop (mkF m 180 #[s0, .val (.int i1), s2, s3, .val (.int i4), .val (.int i5), s6, .val (.int (Int32.ofNat mm)), s8, .val (.ref o9), .val (.ref o10), s11, s12] [])) _
      refine XS.iload X0.here hx rfl (hb hby at_180) rfl ?_
      show Steps p.tables e below (T0.setTop (mkF m 182 #[s0, .val (.int i1), s2, s3, .val (.int i4), .val (.int i5), s6, .val (.int (Int32.ofNat mm)), s8, .val (.ref o9), .val (.ref o10), s11, s12] [(.int (Int32.ofNat mm))])) _
      exact k)
  by_cases kk : (0 : Int32) < (Int32.ofNat mm)
  · skip
    have q193 : ∀ t, Steps p.tables e below (T0.setTop (mkF m 195 #[s0, .val (.int i1), s2, s3, .val (.int i4), .val (.int i5), s6, .val (.int (Int32.ofNat mm)), s8, .val (.ref o9), .val (.ref o10), s11, s12] [(.int i5), (.int i4), (.int (7 : Int32)), (.int i1), (.int (0 : Int32)), (.ref o10)])) t → Steps p.tables e below (T0.setTop (mkF m 180 #[s0, .val (.int i1), s2, s3, .val (.int i4), .val (.int i5), s6, .val (.int (Int32.ofNat mm)), s8, .val (.ref o9), .val (.ref o10), s11, s12] [])) t := fun t k => q192 t (by
        show Steps p.tables e below (T0.setTop (mkF m 182 #[s0, .val (.int i1), s2, s3, .val (.int i4), .val (.int i5), s6, .val (.int (Int32.ofNat mm)), s8, .val (.ref o9), .val (.ref o10), s11, s12] [(.int (Int32.ofNat mm))])) _
        refine XS.ifNo X0.here hx rfl (hb hby at_182) rfl (XT.i0_le_f (kk : (0 : Int32) < (Int32.ofNat mm))) ?_
        show Steps p.tables e below (T0.setTop (mkF m 185 #[s0, .val (.int i1), s2, s3, .val (.int i4), .val (.int i5), s6, .val (.int (Int32.ofNat mm)), s8, .val (.ref o9), .val (.ref o10), s11, s12] [])) _
        refine XS.aload X0.here hx rfl (hb hby at_185) rfl rfl ?_
        show Steps p.tables e below (T0.setTop (mkF m 187 #[s0, .val (.int i1), s2, s3, .val (.int i4), .val (.int i5), s6, .val (.int (Int32.ofNat mm)), s8, .val (.ref o9), .val (.ref o10), s11, s12] [(.ref o10)])) _
        refine XS.iconst X0.here hx rfl (hb hby at_187) ?_
        show Steps p.tables e below (T0.setTop (mkF m 188 #[s0, .val (.int i1), s2, s3, .val (.int i4), .val (.int i5), s6, .val (.int (Int32.ofNat mm)), s8, .val (.ref o9), .val (.ref o10), s11, s12] [(.int (0 : Int32)), (.ref o10)])) _
        refine XS.iloadN X0.here hx rfl (hb hby at_188) rfl ?_
        show Steps p.tables e below (T0.setTop (mkF m 189 #[s0, .val (.int i1), s2, s3, .val (.int i4), .val (.int i5), s6, .val (.int (Int32.ofNat mm)), s8, .val (.ref o9), .val (.ref o10), s11, s12] [(.int i1), (.int (0 : Int32)), (.ref o10)])) _
        refine XS.bipush X0.here hx rfl (hb hby at_189) ?_
        show Steps p.tables e below (T0.setTop (mkF m 191 #[s0, .val (.int i1), s2, s3, .val (.int i4), .val (.int i5), s6, .val (.int (Int32.ofNat mm)), s8, .val (.ref o9), .val (.ref o10), s11, s12] [(.int (7 : Int32)), (.int i1), (.int (0 : Int32)), (.ref o10)])) _
        refine XS.iload X0.here hx rfl (hb hby at_191) rfl ?_
        show Steps p.tables e below (T0.setTop (mkF m 193 #[s0, .val (.int i1), s2, s3, .val (.int i4), .val (.int i5), s6, .val (.int (Int32.ofNat mm)), s8, .val (.ref o9), .val (.ref o10), s11, s12] [(.int i4), (.int (7 : Int32)), (.int i1), (.int (0 : Int32)), (.ref o10)])) _
        refine XS.iload X0.here hx rfl (hb hby at_193) rfl ?_
        show Steps p.tables e below (T0.setTop (mkF m 195 #[s0, .val (.int i1), s2, s3, .val (.int i4), .val (.int i5), s6, .val (.int (Int32.ofNat mm)), s8, .val (.ref o9), .val (.ref o10), s11, s12] [(.int i5), (.int i4), (.int (7 : Int32)), (.int i1), (.int (0 : Int32)), (.ref o10)])) _
        exact k)
    obtain ⟨_, _, ⟨T194, L194, kk194, nn194⟩, -, X194, ⟨Lc194, hQ194, l194, y194, z194⟩, st194⟩ := Jvm.LawKit.callS X0 hx (y := (⟨"com/example/orbweaver/orbweaver/store/GzipMembersIndexOfPinLaw", "pick", "(IIBB)B"⟩ : MethodName)) hown (mvT hZ (hw _ (List.mem_of_getElem? (i := 2) rfl))) (mvT hZ (hw _ (List.mem_of_getElem? (i := 3) rfl))) (mvT hZ (hw _ (List.mem_of_getElem? (i := 4) rfl))) (mvT hZ (hw _ (List.mem_of_getElem? (i := 5) rfl))) (by decide) (backOf (W := 2) (rm1 l Z a0 hw [] i1 (7 : Int32) i4 i5 h0 n0 Z0) hZ (hw _ (List.mem_of_getElem? (i := 5) rfl)) (hw _ (List.mem_of_getElem? (i := 4) rfl)) (by decide) (by decide)) (g := (mkF m 195 #[s0, .val (.int i1), s2, s3, .val (.int i4), .val (.int i5), s6, .val (.int (Int32.ofNat mm)), s8, .val (.ref o9), .val (.ref o10), s11, s12] [(.int i5), (.int i4), (.int (7 : Int32)), (.int i1), (.int (0 : Int32)), (.ref o10)])) rfl (by rw [hml]; rfl) (argsL := [(.int i1), (.int (7 : Int32)), (.int i4), (.int i5)]) (rest := [(.int (0 : Int32)), (.ref o10)]) (lenOf pd__IIBB_B rfl) rfl (by show 2 * 0 + _ ≤ _; exact Nat.le_of_eq rfl) (hb hby at_195) (fun _ _ => ⟨rfl, e0, (by decide : 2 + 0 ≤ _), (by decide : 10 + 0 ≤ _)⟩)
    dsimp only [Pt.U, Pt.locs, Pt.cells, Pt.slots] at X194 l194 y194 z194 st194 hQ194
    subst l194 y194 z194
    obtain ⟨rfl, Nq194, e194⟩ := hQ194
    have N194 := Fr.app N0 Nq194
    have q195 : ∀ t, Steps p.tables e below (T194.setTop (mkF m 198 #[s0, .val (.int i1), s2, s3, .val (.int i4), .val (.int i5), s6, .val (.int (Int32.ofNat mm)), s8, .val (.ref o9), .val (.ref o10), s11, s12] [(.int (own_pk i1 (7 : Int32) i4 i5)), (.int (0 : Int32)), (.ref o10)])) t → Steps p.tables e below (T0.setTop (mkF m 180 #[s0, .val (.int i1), s2, s3, .val (.int i4), .val (.int i5), s6, .val (.int (Int32.ofNat mm)), s8, .val (.ref o9), .val (.ref o10), s11, s12] [])) t := fun t k => q193 t (st194 t k)
    obtain ⟨cl, Ar, S, M, H⟩ := Bg
    obtain ⟨T196, h196, X196, e196, W196, st196⟩ := stB X194 hx hZ e194 (Ar) (j := (0 : Int32)) (inb_of S ⟨by decide, kk⟩) (g := (mkF m 198 #[s0, .val (.int i1), s2, s3, .val (.int i4), .val (.int i5), s6, .val (.int (Int32.ofNat mm)), s8, .val (.ref o9), .val (.ref o10), s11, s12] [(.int (own_pk i1 (7 : Int32) i4 i5)), (.int (0 : Int32)), (.ref o10)])) rfl rfl (hb hby at_198)
    have N196 := Fr.snoc X196 N194 (g10)
    have q197 : ∀ t, Steps p.tables e below (T196.setTop (mkF m 199 #[s0, .val (.int i1), s2, s3, .val (.int i4), .val (.int i5), s6, .val (.int (Int32.ofNat mm)), s8, .val (.ref o9), .val (.ref o10), s11, s12] [])) t → Steps p.tables e below (T0.setTop (mkF m 180 #[s0, .val (.int i1), s2, s3, .val (.int i4), .val (.int i5), s6, .val (.int (Int32.ofNat mm)), s8, .val (.ref o9), .val (.ref o10), s11, s12] [])) t := fun t k => q195 t (st196 t k)
    have Z196 : n0 ≤ h196.size := Nat.le_trans Z0 (Keep.of_wr W196).1
    exact ⟨_, _, _, _, X196, e196, N196, Z196, Bf.other W196 ne, Bt.set Ar S M H W196, q197⟩
  · skip
    have q198 : ∀ t, Steps p.tables e below (T0.setTop (mkF m 199 #[s0, .val (.int i1), s2, s3, .val (.int i4), .val (.int i5), s6, .val (.int (Int32.ofNat mm)), s8, .val (.ref o9), .val (.ref o10), s11, s12] [])) t → Steps p.tables e below (T0.setTop (mkF m 180 #[s0, .val (.int i1), s2, s3, .val (.int i4), .val (.int i5), s6, .val (.int (Int32.ofNat mm)), s8, .val (.ref o9), .val (.ref o10), s11, s12] [])) t := fun t k => q192 t (by
        show Steps p.tables e below (T0.setTop (mkF m 182 #[s0, .val (.int i1), s2, s3, .val (.int i4), .val (.int i5), s6, .val (.int (Int32.ofNat mm)), s8, .val (.ref o9), .val (.ref o10), s11, s12] [(.int (Int32.ofNat mm))])) _
        refine XS.ifYes X0.here hx rfl (pc0 := 182) (pc' := 199) rfl (hb hby at_182) rfl (XT.i0_le_t (kk : ¬ ((0 : Int32) < (Int32.ofNat mm)))) (by decide) (by decide) ?_
        show Steps p.tables e below (T0.setTop (mkF m 199 #[s0, .val (.int i1), s2, s3, .val (.int i4), .val (.int i5), s6, .val (.int (Int32.ofNat mm)), s8, .val (.ref o9), .val (.ref o10), s11, s12] [])) _
        exact k)
    exact ⟨_, _, _, _, X0, e0, N0, Z0, Bf, Bg, q198⟩
set_option maxRecDepth 65536 in
set_option maxHeartbeats 40000000 in
theorem ss1 {p : Program} {l : Launch} {e : Env} {s : State} {m : MethodId} {args : Array Value} {below : List Frame} {meth : Method} {c : Code} {T0 : State} {locs : List Loc} {Z : State} {a0 : Array Value} {h0 : Heap} (s0 : Slot) (i1 : Int32) (s2 s3 : Slot) (i4 i5 : Int32) (s6 s8 : Slot) (o9 o10 : Addr) (s11 s12 : Slot) (n mm : Nat) (f g : Nat → Int32) (n0 : Nat)
    (X0 : Stand p l e room_1 s m args below meth c T0 locs 2 10) (hx : p.tables.exec = Jvm.exec) (hZ : Z.Warmed39 s.vm) (hw : ∀ d ∈ tables_1, d.before a0 Z = true) (hby : c.code = code) (hml : c.maxLocals = 13) (hown : s.vm.findClass "com/example/orbweaver/orbweaver/store/GzipMembersIndexOfPinLaw" = some m.cls) (e0 : T0.heap = h0) (Z0 : n0 ≤ h0.size) (N0 : Fr n0 locs) (g10 : n0 ≤ o10) (ne : o9 ≠ o10) (Bf : Bt Z h0 o9 (Int32.ofNat n) f) (Bg : Bt Z h0 o10 (Int32.ofNat mm) g) :
    ∃ (T' : State) (h' : Heap) (locs' : List Loc) (g' : Nat → Int32), Stand p l e room_1 s m args below meth c T' locs' 2 10 ∧ T'.heap = h' ∧ Fr n0 locs' ∧ n0 ≤ h'.size ∧ Bt Z h' o9 (Int32.ofNat n) f ∧ Bt Z h' o10 (Int32.ofNat mm) g' ∧ ∀ t, Steps p.tables e below (T'.setTop (mkF m 219 #[s0, .val (.int i1), s2, s3, .val (.int i4), .val (.int i5), s6, .val (.int (Int32.ofNat mm)), s8, .val (.ref o9), .val (.ref o10), s11, s12] [])) t → Steps p.tables e below (T0.setTop (mkF m 199 #[s0, .val (.int i1), s2, s3, .val (.int i4), .val (.int i5), s6, .val (.int (Int32.ofNat mm)), s8, .val (.ref o9), .val (.ref o10), s11, s12] [])) t := by
  have pre0 : ∀ t, Steps p.tables e below (T0.setTop (mkF m 199 #[s0, .val (.int i1), s2, s3, .val (.int i4), .val (.int i5), s6, .val (.int (Int32.ofNat mm)), s8, .val (.ref o9), .val (.ref o10), s11, s12] [])) t → Steps p.tables e below (T0.setTop (mkF m 199 #[s0, .val (.int i1), s2, s3, .val (.int i4), .val (.int i5), s6, .val (.int (Int32.ofNat mm)), s8, .val (.ref o9), .val (.ref o10), s11, s12] [])) t := fun t k => k
  have q199 : ∀ t, Steps p.tables e below (T0.setTop (mkF m 202 #[s0, .val (.int i1), s2, s3, .val (.int i4), .val (.int i5), s6, .val (.int (Int32.ofNat mm)), s8, .val (.ref o9), .val (.ref o10), s11, s12] [(.int (1 : Int32)), (.int (Int32.ofNat mm))])) t → Steps p.tables e below (T0.setTop (mkF m 199 #[s0, .val (.int i1), s2, s3, .val (.int i4), .val (.int i5), s6, .val (.int (Int32.ofNat mm)), s8, .val (.ref o9), .val (.ref o10), s11, s12] [])) t := fun t k => pre0 t (by
      show Steps p.tables e below (T0.setTop (mkF m 199 #[s0, .val (.int i1), s2, s3, .val (.int i4), .val (.int i5), s6, .val (.int (Int32.ofNat mm)), s8, .val (.ref o9), .val (.ref o10), s11, s12] [])) _
      refine XS.iload X0.here hx rfl (hb hby at_199) rfl ?_
      show Steps p.tables e below (T0.setTop (mkF m 201 #[s0, .val (.int i1), s2, s3, .val (.int i4), .val (.int i5), s6, .val (.int (Int32.ofNat mm)), s8, .val (.ref o9), .val (.ref o10), s11, s12] [(.int (Int32.ofNat mm))])) _
      refine XS.iconst X0.here hx rfl (hb hby at_201) ?_
      show Steps p.tables e below (T0.setTop (mkF m 202 #[s0, .val (.int i1), s2, s3, .val (.int i4), .val (.int i5), s6, .val (.int (Int32.ofNat mm)), s8, .val (.ref o9), .val (.ref o10), s11, s12] [(.int (1 : Int32)), (.int (Int32.ofNat mm))])) _
      exact k)
  by_cases kk : (1 : Int32) < (Int32.ofNat mm)
  · skip
    have q200 : ∀ t, Steps p.tables e below (T0.setTop (mkF m 215 #[s0, .val (.int i1), s2, s3, .val (.int i4), .val (.int i5), s6, .val (.int (Int32.ofNat mm)), s8, .val (.ref o9), .val (.ref o10), s11, s12] [(.int i5), (.int i4), (.int (8 : Int32)), (.int i1), (.int (1 : Int32)), (.ref o10)])) t → Steps p.tables e below (T0.setTop (mkF m 199 #[s0, .val (.int i1), s2, s3, .val (.int i4), .val (.int i5), s6, .val (.int (Int32.ofNat mm)), s8, .val (.ref o9), .val (.ref o10), s11, s12] [])) t := fun t k => q199 t (by
        show Steps p.tables e below (T0.setTop (mkF m 202 #[s0, .val (.int i1), s2, s3, .val (.int i4), .val (.int i5), s6, .val (.int (Int32.ofNat mm)), s8, .val (.ref o9), .val (.ref o10), s11, s12] [(.int (1 : Int32)), (.int (Int32.ofNat mm))])) _
        refine XS.icmpNo X0.here hx rfl (hb hby at_202) rfl (XT.ii_le_f (kk : (1 : Int32) < (Int32.ofNat mm))) ?_
        show Steps p.tables e below (T0.setTop (mkF m 205 #[s0, .val (.int i1), s2, s3, .val (.int i4), .val (.int i5), s6, .val (.int (Int32.ofNat mm)), s8, .val (.ref o9), .val (.ref o10), s11, s12] [])) _
        refine XS.aload X0.here hx rfl (hb hby at_205) rfl rfl ?_
        show Steps p.tables e below (T0.setTop (mkF m 207 #[s0, .val (.int i1), s2, s3, .val (.int i4), .val (.int i5), s6, .val (.int (Int32.ofNat mm)), s8, .val (.ref o9), .val (.ref o10), s11, s12] [(.ref o10)])) _
        refine XS.iconst X0.here hx rfl (hb hby at_207) ?_
        show Steps p.tables e below (T0.setTop (mkF m 208 #[s0, .val (.int i1), s2, s3, .val (.int i4), .val (.int i5), s6, .val (.int (Int32.ofNat mm)), s8, .val (.ref o9), .val (.ref o10), s11, s12] [(.int (1 : Int32)), (.ref o10)])) _
        refine XS.iloadN X0.here hx rfl (hb hby at_208) rfl ?_
        show Steps p.tables e below (T0.setTop (mkF m 209 #[s0, .val (.int i1), s2, s3, .val (.int i4), .val (.int i5), s6, .val (.int (Int32.ofNat mm)), s8, .val (.ref o9), .val (.ref o10), s11, s12] [(.int i1), (.int (1 : Int32)), (.ref o10)])) _
        refine XS.bipush X0.here hx rfl (hb hby at_209) ?_
        show Steps p.tables e below (T0.setTop (mkF m 211 #[s0, .val (.int i1), s2, s3, .val (.int i4), .val (.int i5), s6, .val (.int (Int32.ofNat mm)), s8, .val (.ref o9), .val (.ref o10), s11, s12] [(.int (8 : Int32)), (.int i1), (.int (1 : Int32)), (.ref o10)])) _
        refine XS.iload X0.here hx rfl (hb hby at_211) rfl ?_
        show Steps p.tables e below (T0.setTop (mkF m 213 #[s0, .val (.int i1), s2, s3, .val (.int i4), .val (.int i5), s6, .val (.int (Int32.ofNat mm)), s8, .val (.ref o9), .val (.ref o10), s11, s12] [(.int i4), (.int (8 : Int32)), (.int i1), (.int (1 : Int32)), (.ref o10)])) _
        refine XS.iload X0.here hx rfl (hb hby at_213) rfl ?_
        show Steps p.tables e below (T0.setTop (mkF m 215 #[s0, .val (.int i1), s2, s3, .val (.int i4), .val (.int i5), s6, .val (.int (Int32.ofNat mm)), s8, .val (.ref o9), .val (.ref o10), s11, s12] [(.int i5), (.int i4), (.int (8 : Int32)), (.int i1), (.int (1 : Int32)), (.ref o10)])) _
        exact k)
    obtain ⟨_, _, ⟨T201, L201, kk201, nn201⟩, -, X201, ⟨Lc201, hQ201, l201, y201, z201⟩, st201⟩ := Jvm.LawKit.callS X0 hx (y := (⟨"com/example/orbweaver/orbweaver/store/GzipMembersIndexOfPinLaw", "pick", "(IIBB)B"⟩ : MethodName)) hown (mvT hZ (hw _ (List.mem_of_getElem? (i := 2) rfl))) (mvT hZ (hw _ (List.mem_of_getElem? (i := 3) rfl))) (mvT hZ (hw _ (List.mem_of_getElem? (i := 4) rfl))) (mvT hZ (hw _ (List.mem_of_getElem? (i := 5) rfl))) (by decide) (backOf (W := 2) (rm1 l Z a0 hw [] i1 (8 : Int32) i4 i5 h0 n0 Z0) hZ (hw _ (List.mem_of_getElem? (i := 5) rfl)) (hw _ (List.mem_of_getElem? (i := 4) rfl)) (by decide) (by decide)) (g := (mkF m 215 #[s0, .val (.int i1), s2, s3, .val (.int i4), .val (.int i5), s6, .val (.int (Int32.ofNat mm)), s8, .val (.ref o9), .val (.ref o10), s11, s12] [(.int i5), (.int i4), (.int (8 : Int32)), (.int i1), (.int (1 : Int32)), (.ref o10)])) rfl (by rw [hml]; rfl) (argsL := [(.int i1), (.int (8 : Int32)), (.int i4), (.int i5)]) (rest := [(.int (1 : Int32)), (.ref o10)]) (lenOf pd__IIBB_B rfl) rfl (by show 2 * 0 + _ ≤ _; exact Nat.le_of_eq rfl) (hb hby at_215) (fun _ _ => ⟨rfl, e0, (by decide : 2 + 0 ≤ _), (by decide : 10 + 0 ≤ _)⟩)
    dsimp only [Pt.U, Pt.locs, Pt.cells, Pt.slots] at X201 l201 y201 z201 st201 hQ201
    subst l201 y201 z201
    obtain ⟨rfl, Nq201, e201⟩ := hQ201
    have N201 := Fr.app N0 Nq201
    have q202 : ∀ t, Steps p.tables e below (T201.setTop (mkF m 218 #[s0, .val (.int i1), s2, s3, .val (.int i4), .val (.int i5), s6, .val (.int (Int32.ofNat mm)), s8, .val (.ref o9), .val (.ref o10), s11, s12] [(.int (own_pk i1 (8 : Int32) i4 i5)), (.int (1 : Int32)), (.ref o10)])) t → Steps p.tables e below (T0.setTop (mkF m 199 #[s0, .val (.int i1), s2, s3, .val (.int i4), .val (.int i5), s6, .val (.int (Int32.ofNat mm)), s8, .val (.ref o9), .val (.ref o10), s11, s12] [])) t := fun t k => q200 t (st201 t k)
    obtain ⟨cl, Ar, S, M, H⟩ := Bg
    obtain ⟨T203, h203, X203, e203, W203, st203⟩ := stB X201 hx hZ e201 (Ar) (j := (1 : Int32)) (inb_of S ⟨by decide, kk⟩) (g := (mkF m 218 #[s0, .val (.int i1), s2, s3, .val (.int i4), .val (.int i5), s6, .val (.int (Int32.ofNat mm)), s8, .val (.ref o9), .val (.ref o10), s11, s12] [(.int (own_pk i1 (8 : Int32) i4 i5)), (.int (1 : Int32)), (.ref o10)])) rfl rfl (hb hby at_218)
    have N203 := Fr.snoc X203 N201 (g10)
    have q204 : ∀ t, Steps p.tables e below (T203.setTop (mkF m 219 #[s0, .val (.int i1), s2, s3, .val (.int i4), .val (.int i5), s6, .val (.int (Int32.ofNat mm)), s8, .val (.ref o9), .val (.ref o10), s11, s12] [])) t → Steps p.tables e below (T0.setTop (mkF m 199 #[s0, .val (.int i1), s2, s3, .val (.int i4), .val (.int i5), s6, .val (.int (Int32.ofNat mm)), s8, .val (.ref o9), .val (.ref o10), s11, s12] [])) t := fun t k => q202 t (st203 t k)
    have Z203 : n0 ≤ h203.size := Nat.le_trans Z0 (Keep.of_wr W203).1
    exact ⟨_, _, _, _, X203, e203, N203, Z203, Bf.other W203 ne, Bt.set Ar S M H W203, q204⟩
  · skip
    have q205 : ∀ t, Steps p.tables e below (T0.setTop (mkF m 219 #[s0, .val (.int i1), s2, s3, .val (.int i4), .val (.int i5), s6, .val (.int (Int32.ofNat mm)), s8, .val (.ref o9), .val (.ref o10), s11, s12] [])) t → Steps p.tables e below (T0.setTop (mkF m 199 #[s0, .val (.int i1), s2, s3, .val (.int i4), .val (.int i5), s6, .val (.int (Int32.ofNat mm)), s8, .val (.ref o9), .val (.ref o10), s11, s12] [])) t := fun t k => q199 t (by
        show Steps p.tables e below (T0.setTop (mkF m 202 #[s0, .val (.int i1), s2, s3, .val (.int i4), .val (.int i5), s6, .val (.int (Int32.ofNat mm)), s8, .val (.ref o9), .val (.ref o10), s11, s12] [(.int (1 : Int32)), (.int (Int32.ofNat mm))])) _
        refine XS.icmpYes X0.here hx rfl (pc0 := 202) (pc' := 219) rfl (hb hby at_202) rfl (XT.ii_le_t (kk : ¬ ((1 : Int32) < (Int32.ofNat mm)))) (by decide) (by decide) ?_
        show Steps p.tables e below (T0.setTop (mkF m 219 #[s0, .val (.int i1), s2, s3, .val (.int i4), .val (.int i5), s6, .val (.int (Int32.ofNat mm)), s8, .val (.ref o9), .val (.ref o10), s11, s12] [])) _
        exact k)
    exact ⟨_, _, _, _, X0, e0, N0, Z0, Bf, Bg, q205⟩
set_option maxRecDepth 65536 in
set_option maxHeartbeats 40000000 in
theorem ss2 {p : Program} {l : Launch} {e : Env} {s : State} {m : MethodId} {args : Array Value} {below : List Frame} {meth : Method} {c : Code} {T0 : State} {locs : List Loc} {Z : State} {a0 : Array Value} {h0 : Heap} (s0 : Slot) (i1 : Int32) (s2 s3 : Slot) (i4 i5 : Int32) (s6 s8 : Slot) (o9 o10 : Addr) (s11 s12 : Slot) (n mm : Nat) (f g : Nat → Int32) (n0 : Nat)
    (X0 : Stand p l e room_1 s m args below meth c T0 locs 2 10) (hx : p.tables.exec = Jvm.exec) (hZ : Z.Warmed39 s.vm) (hw : ∀ d ∈ tables_1, d.before a0 Z = true) (hby : c.code = code) (hml : c.maxLocals = 13) (hown : s.vm.findClass "com/example/orbweaver/orbweaver/store/GzipMembersIndexOfPinLaw" = some m.cls) (e0 : T0.heap = h0) (Z0 : n0 ≤ h0.size) (N0 : Fr n0 locs) (g10 : n0 ≤ o10) (ne : o9 ≠ o10) (Bf : Bt Z h0 o9 (Int32.ofNat n) f) (Bg : Bt Z h0 o10 (Int32.ofNat mm) g) :
    ∃ (T' : State) (h' : Heap) (locs' : List Loc) (g' : Nat → Int32), Stand p l e room_1 s m args below meth c T' locs' 2 10 ∧ T'.heap = h' ∧ Fr n0 locs' ∧ n0 ≤ h'.size ∧ Bt Z h' o9 (Int32.ofNat n) f ∧ Bt Z h' o10 (Int32.ofNat mm) g' ∧ ∀ t, Steps p.tables e below (T'.setTop (mkF m 239 #[s0, .val (.int i1), s2, s3, .val (.int i4), .val (.int i5), s6, .val (.int (Int32.ofNat mm)), s8, .val (.ref o9), .val (.ref o10), s11, s12] [])) t → Steps p.tables e below (T0.setTop (mkF m 219 #[s0, .val (.int i1), s2, s3, .val (.int i4), .val (.int i5), s6, .val (.int (Int32.ofNat mm)), s8, .val (.ref o9), .val (.ref o10), s11, s12] [])) t := by
  have pre0 : ∀ t, Steps p.tables e below (T0.setTop (mkF m 219 #[s0, .val (.int i1), s2, s3, .val (.int i4), .val (.int i5), s6, .val (.int (Int32.ofNat mm)), s8, .val (.ref o9), .val (.ref o10), s11, s12] [])) t → Steps p.tables e below (T0.setTop (mkF m 219 #[s0, .val (.int i1), s2, s3, .val (.int i4), .val (.int i5), s6, .val (.int (Int32.ofNat mm)), s8, .val (.ref o9), .val (.ref o10), s11, s12] [])) t := fun t k => k
  have q206 : ∀ t, Steps p.tables e below (T0.setTop (mkF m 222 #[s0, .val (.int i1), s2, s3, .val (.int i4), .val (.int i5), s6, .val (.int (Int32.ofNat mm)), s8, .val (.ref o9), .val (.ref o10), s11, s12] [(.int (2 : Int32)), (.int (Int32.ofNat mm))])) t → Steps p.tables e below (T0.setTop (mkF m 219 #[s0, .val (.int i1), s2, s3, .val (.int i4), .val (.int i5), s6, .val (.int (Int32.ofNat mm)), s8, .val (.ref o9), .val (.ref o10), s11, s12] [])) t := fun t k => pre0 t (by
      show Steps p.tables e below (T0.setTop (mkF m 219 #[s0, .val (.int i1), s2, s3, .val (.int i4), .val (.int i5), s6, .val (.int (Int32.ofNat mm)), s8, .val (.ref o9), .val (.ref o10), s11, s12] [])) _
      refine XS.iload X0.here hx rfl (hb hby at_219) rfl ?_
      show Steps p.tables e below (T0.setTop (mkF m 221 #[s0, .val (.int i1), s2, s3, .val (.int i4), .val (.int i5), s6, .val (.int (Int32.ofNat mm)), s8, .val (.ref o9), .val (.ref o10), s11, s12] [(.int (Int32.ofNat mm))])) _
      refine XS.iconst X0.here hx rfl (hb hby at_221) ?_
      show Steps p.tables e below (T0.setTop (mkF m 222 #[s0, .val (.int i1), s2, s3, .val (.int i4), .val (.int i5), s6, .val (.int (Int32.ofNat mm)), s8, .val (.ref o9), .val (.ref o10), s11, s12] [(.int (2 : Int32)), (.int (Int32.ofNat mm))])) _
      exact k)
  by_cases kk : (2 : Int32) < (Int32.ofNat mm)
  · skip
    have q207 : ∀ t, Steps p.tables e below (T0.setTop (mkF m 235 #[s0, .val (.int i1), s2, s3, .val (.int i4), .val (.int i5), s6, .val (.int (Int32.ofNat mm)), s8, .val (.ref o9), .val (.ref o10), s11, s12] [(.int i5), (.int i4), (.int (9 : Int32)), (.int i1), (.int (2 : Int32)), (.ref o10)])) t → Steps p.tables e below (T0.setTop (mkF m 219 #[s0, .val (.int i1), s2, s3, .val (.int i4), .val (.int i5), s6, .val (.int (Int32.ofNat mm)), s8, .val (.ref o9), .val (.ref o10), s11, s12] [])) t := fun t k => q206 t (by
        show Steps p.tables e below (T0.setTop (mkF m 222 #[s0, .val (.int i1), s2, s3, .val (.int i4), .val (.int i5), s6, .val (.int (Int32.ofNat mm)), s8, .val (.ref o9), .val (.ref o10), s11, s12] [(.int (2 : Int32)), (.int (Int32.ofNat mm))])) _
        refine XS.icmpNo X0.here hx rfl (hb hby at_222) rfl (XT.ii_le_f (kk : (2 : Int32) < (Int32.ofNat mm))) ?_
        show Steps p.tables e below (T0.setTop (mkF m 225 #[s0, .val (.int i1), s2, s3, .val (.int i4), .val (.int i5), s6, .val (.int (Int32.ofNat mm)), s8, .val (.ref o9), .val (.ref o10), s11, s12] [])) _
        refine XS.aload X0.here hx rfl (hb hby at_225) rfl rfl ?_
        show Steps p.tables e below (T0.setTop (mkF m 227 #[s0, .val (.int i1), s2, s3, .val (.int i4), .val (.int i5), s6, .val (.int (Int32.ofNat mm)), s8, .val (.ref o9), .val (.ref o10), s11, s12] [(.ref o10)])) _
        refine XS.iconst X0.here hx rfl (hb hby at_227) ?_
        show Steps p.tables e below (T0.setTop (mkF m 228 #[s0, .val (.int i1), s2, s3, .val (.int i4), .val (.int i5), s6, .val (.int (Int32.ofNat mm)), s8, .val (.ref o9), .val (.ref o10), s11, s12] [(.int (2 : Int32)), (.ref o10)])) _
        refine XS.iloadN X0.here hx rfl (hb hby at_228) rfl ?_
        show Steps p.tables e below (T0.setTop (mkF m 229 #[s0, .val (.int i1), s2, s3, .val (.int i4), .val (.int i5), s6, .val (.int (Int32.ofNat mm)), s8, .val (.ref o9), .val (.ref o10), s11, s12] [(.int i1), (.int (2 : Int32)), (.ref o10)])) _
        refine XS.bipush X0.here hx rfl (hb hby at_229) ?_
        show Steps p.tables e below (T0.setTop (mkF m 231 #[s0, .val (.int i1), s2, s3, .val (.int i4), .val (.int i5), s6, .val (.int (Int32.ofNat mm)), s8, .val (.ref o9), .val (.ref o10), s11, s12] [(.int (9 : Int32)), (.int i1), (.int (2 : Int32)), (.ref o10)])) _
        refine XS.iload X0.here hx rfl (hb hby at_231) rfl ?_
        show Steps p.tables e below (T0.setTop (mkF m 233 #[s0, .val (.int i1), s2, s3, .val (.int i4), .val (.int i5), s6, .val (.int (Int32.ofNat mm)), s8, .val (.ref o9), .val (.ref o10), s11, s12] [(.int i4), (.int (9 : Int32)), (.int i1), (.int (2 : Int32)), (.ref o10)])) _
        refine XS.iload X0.here hx rfl (hb hby at_233) rfl ?_
        show Steps p.tables e below (T0.setTop (mkF m 235 #[s0, .val (.int i1), s2, s3, .val (.int i4), .val (.int i5), s6, .val (.int (Int32.ofNat mm)), s8, .val (.ref o9), .val (.ref o10), s11, s12] [(.int i5), (.int i4), (.int (9 : Int32)), (.int i1), (.int (2 : Int32)), (.ref o10)])) _
        exact k)
    obtain ⟨_, _, ⟨T208, L208, kk208, nn208⟩, -, X208, ⟨Lc208, hQ208, l208, y208, z208⟩, st208⟩ := Jvm.LawKit.callS X0 hx (y := (⟨"com/example/orbweaver/orbweaver/store/GzipMembersIndexOfPinLaw", "pick", "(IIBB)B"⟩ : MethodName)) hown (mvT hZ (hw _ (List.mem_of_getElem? (i := 2) rfl))) (mvT hZ (hw _ (List.mem_of_getElem? (i := 3) rfl))) (mvT hZ (hw _ (List.mem_of_getElem? (i := 4) rfl))) (mvT hZ (hw _ (List.mem_of_getElem? (i := 5) rfl))) (by decide) (backOf (W := 2) (rm1 l Z a0 hw [] i1 (9 : Int32) i4 i5 h0 n0 Z0) hZ (hw _ (List.mem_of_getElem? (i := 5) rfl)) (hw _ (List.mem_of_getElem? (i := 4) rfl)) (by decide) (by decide)) (g := (mkF m 235 #[s0, .val (.int i1), s2, s3, .val (.int i4), .val (.int i5), s6, .val (.int (Int32.ofNat mm)), s8, .val (.ref o9), .val (.ref o10), s11, s12] [(.int i5), (.int i4), (.int (9 : Int32)), (.int i1), (.int (2 : Int32)), (.ref o10)])) rfl (by rw [hml]; rfl) (argsL := [(.int i1), (.int (9 : Int32)), (.int i4), (.int i5)]) (rest := [(.int (2 : Int32)), (.ref o10)]) (lenOf pd__IIBB_B rfl) rfl (by show 2 * 0 + _ ≤ _; exact Nat.le_of_eq rfl) (hb hby at_235) (fun _ _ => ⟨rfl, e0, (by decide : 2 + 0 ≤ _), (by decide : 10 + 0 ≤ _)⟩)
    dsimp only [Pt.U, Pt.locs, Pt.cells, Pt.slots] at X208 l208 y208 z208 st208 hQ208
    subst l208 y208 z208
    obtain ⟨rfl, Nq208, e208⟩ := hQ208
    have N208 := Fr.app N0 Nq208
    have q209 : ∀ t, Steps p.tables e below (T208.setTop (mkF m 238 #[s0, .val (.int i1), s2, s3, .val (.int i4), .val (.int i5), s6, .val (.int (Int32.ofNat mm)), s8, .val (.ref o9), .val (.ref o10), s11, s12] [(.int (own_pk i1 (9 : Int32) i4 i5)), (.int (2 : Int32)), (.ref o10)])) t → Steps p.tables e below (T0.setTop (mkF m 219 #[s0, .val (.int i1), s2, s3, .val (.int i4), .val (.int i5), s6, .val (.int (Int32.ofNat mm)), s8, .val (.ref o9), .val (.ref o10), s11, s12] [])) t := fun t k => q207 t (st208 t k)
    obtain ⟨cl, Ar, S, M, H⟩ := Bg
    obtain ⟨T210, h210, X210, e210, W210, st210⟩ := stB X208 hx hZ e208 (Ar) (j := (2 : Int32)) (inb_of S ⟨by decide, kk⟩) (g := (mkF m 238 #[s0, .val (.int i1), s2, s3, .val (.int i4), .val (.int i5), s6, .val (.int (Int32.ofNat mm)), s8, .val (.ref o9), .val (.ref o10), s11, s12] [(.int (own_pk i1 (9 : Int32) i4 i5)), (.int (2 : Int32)), (.ref o10)])) rfl rfl (hb hby at_238)
    have N210 := Fr.snoc X210 N208 (g10)
    have q211 : ∀ t, Steps p.tables e below (T210.setTop (mkF m 239 #[s0, .val (.int i1), s2, s3, .val (.int i4), .val (.int i5), s6, .val (.int (Int32.ofNat mm)), s8, .val (.ref o9), .val (.ref o10), s11, s12] [])) t → Steps p.tables e below (T0.setTop (mkF m 219 #[s0, .val (.int i1), s2, s3, .val (.int i4), .val (.int i5), s6, .val (.int (Int32.ofNat mm)), s8, .val (.ref o9), .val (.ref o10), s11, s12] [])) t := fun t k => q209 t (st210 t k)
    have Z210 : n0 ≤ h210.size := Nat.le_trans Z0 (Keep.of_wr W210).1
    exact ⟨_, _, _, _, X210, e210, N210, Z210, Bf.other W210 ne, Bt.set Ar S M H W210, q211⟩
  · skip
    have q212 : ∀ t, Steps p.tables e below (T0.setTop (mkF m 239 #[s0, .val (.int i1), s2, s3, .val (.int i4), .val (.int i5), s6, .val (.int (Int32.ofNat mm)), s8, .val (.ref o9), .val (.ref o10), s11, s12] [])) t → Steps p.tables e below (T0.setTop (mkF m 219 #[s0, .val (.int i1), s2, s3, .val (.int i4), .val (.int i5), s6, .val (.int (Int32.ofNat mm)), s8, .val (.ref o9), .val (.ref o10), s11, s12] [])) t := fun t k => q206 t (by
        show Steps p.tables e below (T0.setTop (mkF m 222 #[s0, .val (.int i1), s2, s3, .val (.int i4), .val (.int i5), s6, .val (.int (Int32.ofNat mm)), s8, .val (.ref o9), .val (.ref o10), s11, s12] [(.int (2 : Int32)), (.int (Int32.ofNat mm))])) _
        refine XS.icmpYes X0.here hx rfl (pc0 := 222) (pc' := 239) rfl (hb hby at_222) rfl (XT.ii_le_t (kk : ¬ ((2 : Int32) < (Int32.ofNat mm)))) (by decide) (by decide) ?_
        show Steps p.tables e below (T0.setTop (mkF m 239 #[s0, .val (.int i1), s2, s3, .val (.int i4), .val (.int i5), s6, .val (.int (Int32.ofNat mm)), s8, .val (.ref o9), .val (.ref o10), s11, s12] [])) _
        exact k)
    exact ⟨_, _, _, _, X0, e0, N0, Z0, Bf, Bg, q212⟩
theorem pd___B_BI_Z : parseMethodDescriptor "([B[BI)Z" = some ⟨[(.array .byte), (.array .byte), .int], some .boolean⟩ := by decide +kernel
set_option maxRecDepth 65536 in
set_option maxHeartbeats 40000000 in
theorem sm0 {p : Program} {l : Launch} {e : Env} {s : State} {m : MethodId} {args : Array Value} {below : List Frame} {meth : Method} {c : Code} {T0 : State} {locs : List Loc} {Z : State} {a0 : Array Value} {h0 : Heap} (s0 s1 s2 s3 s4 s5 s6 s7 s12 : Slot) (a1 a2 : Addr) (n mm o : Nat) (hn : n ≤ 7) (hm : mm ≤ 3) (ho : o ≤ 9) (f g : Nat → Int32) (cl1 cl2 : Cell) (n0 : Nat)
    (X0 : Stand p l e room_1 s m args below meth c T0 locs 2 10) (hx : p.tables.exec = Jvm.exec) (hZ : Z.Warmed39 s.vm) (hw : ∀ d ∈ tables_1, d.before a0 Z = true) (hby : c.code = code) (hml : c.maxLocals = 13) (hown : s.vm.findClass "com/example/orbweaver/orbweaver/store/GzipMembersIndexOfPinLaw" = some m.cls) (e0 : T0.heap = h0) (Z0 : n0 ≤ h0.size) (N0 : Fr n0 locs) (Ar1 : Arr Z h0 a1 cl1 .byte) (S1 : cl1.slots.size = n) (H1 : ∀ i, i < cl1.slots.size → cl1.slots[i]? = some (.int (f i))) (Ar2 : Arr Z h0 a2 cl2 .byte) (S2 : cl2.slots.size = mm) (H2 : ∀ i, i < cl2.slots.size → cl2.slots[i]? = some (.int (g i))) :
    (∃ (T' : State) (locs' : List Loc), Stand p l e room_1 s m args below meth c T' locs' 2 10 ∧ T'.heap = h0 ∧ Fr n0 locs' ∧ o ≤ 0 ∧ ¬ own_mt f g n mm 0 = 0 ∧ ∀ t, Steps p.tables e below (T'.setTop (mkF m 428 #[s0, s1, s2, s3, s4, s5, s6, s7, .val (.int (Int32.ofNat o)), .val (.ref a1), .val (.ref a2), .val (.int (0 : Int32)), s12] [])) t → Steps p.tables e below (T0.setTop (mkF m 242 #[s0, s1, s2, s3, s4, s5, s6, s7, .val (.int (Int32.ofNat o)), .val (.ref a1), .val (.ref a2), .val (.int (-1 : Int32)), s12] [])) t) ∨ (∃ (T' : State) (locs' : List Loc), Stand p l e room_1 s m args below meth c T' locs' 2 10 ∧ T'.heap = h0 ∧ Fr n0 locs' ∧ (0 < o ∨ own_mt f g n mm 0 = 0) ∧ ∀ t, Steps p.tables e below (T'.setTop (mkF m 264 #[s0, s1, s2, s3, s4, s5, s6, s7, .val (.int (Int32.ofNat o)), .val (.ref a1), .val (.ref a2), .val (.int (-1 : Int32)), s12] [])) t → Steps p.tables e below (T0.setTop (mkF m 242 #[s0, s1, s2, s3, s4, s5, s6, s7, .val (.int (Int32.ofNat o)), .val (.ref a1), .val (.ref a2), .val (.int (-1 : Int32)), s12] [])) t) := by
  have pre0 : ∀ t, Steps p.tables e below (T0.setTop (mkF m 242 #[s0, s1, s2, s3, s4, s5, s6, s7, .val (.int (Int32.ofNat o)), .val (.ref a1), .val (.ref a2), .val (.int (-1 : Int32)), s12] [])) t → Steps p.tables e below (T0.setTop (mkF m 242 #[s0, s1, s2, s3, s4, s5, s6, s7, .val (.int (Int32.ofNat o)), .val (.ref a1), .val (.ref a2), .val (.int (-1 : Int32)), s12] [])) t := fun t k => k
  have q213 : ∀ t, Steps p.tables e below (T0.setTop (mkF m 244 #[s0, s1, s2, s3, s4, s5, s6, s7, .val (.int (Int32.ofNat o)), .val (.ref a1), .val (.ref a2), .val (.int (-1 : Int32)), s12] [(.int (Int32.ofNat o))])) t → Steps p.tables e below (T0.setTop (mkF m 242 #[s0, s1, s2, s3, s4, s5, s6, s7, .val (.int (Int32.ofNat o)), .val (.ref a1), .val (.ref a2), .val (.int (-1 : Int32)), s12] [])) t := fun t k => pre0 t (by
      show Steps p.tables e below (T0.setTop (mkF m 242 #[s0, s1, s2, s3, s4, s5, s6, s7, .val (.int (Int32.ofNat o)), .val (.ref a1), .val (.ref a2), .val (.int (-1 : Int32)), s12] [])) _
      refine XS.iload X0.here hx rfl (hb hby at_242) rfl ?_
      show Steps p.tables e below (T0.setTop (mkF m 244 #[s0, s1, s2, s3, s4, s5, s6, s7, .val (.int (Int32.ofNat o)), .val (.ref a1), .val (.ref a2), .val (.int (-1 : Int32)), s12] [(.int (Int32.ofNat o))])) _
      exact k)
  by_cases ko : (0 : Int32) < (Int32.ofNat o)
  · skip
    have q214 : ∀ t, Steps p.tables e below (T0.setTop (mkF m 264 #[s0, s1, s2, s3, s4, s5, s6, s7, .val (.int (Int32.ofNat o)), .val (.ref a1), .val (.ref a2), .val (.int (-1 : Int32)), s12] [])) t → Steps p.tables e below (T0.setTop (mkF m 242 #[s0, s1, s2, s3, s4, s5, s6, s7, .val (.int (Int32.ofNat o)), .val (.ref a1), .val (.ref a2), .val (.int (-1 : Int32)), s12] [])) t := fun t k => q213 t (by
        show Steps p.tables e below (T0.setTop (mkF m 244 #[s0, s1, s2, s3, s4, s5, s6, s7, .val (.int (Int32.ofNat o)), .val (.ref a1), .val (.ref a2), .val (.int (-1 : Int32)), s12] [(.int (Int32.ofNat o))])) _
        refine XS.ifYes X0.here hx rfl (pc0 := 244) (pc' := 264) rfl (hb hby at_244) rfl (XT.i0_gt_t (ko : (0 : Int32) < (Int32.ofNat o))) (by decide) (by decide) ?_
        show Steps p.tables e below (T0.setTop (mkF m 264 #[s0, s1, s2, s3, s4, s5, s6, s7, .val (.int (Int32.ofNat o)), .val (.ref a1), .val (.ref a2), .val (.int (-1 : Int32)), s12] [])) _
        exact k)
    exact Or.inr ⟨_, _, X0, e0, N0, Or.inl ((own_ltn (i := 0) (by omega) (by omega)).mp ko), q214⟩
  · skip
    have ho' : o ≤ 0 := Nat.le_of_not_lt fun y => ko ((own_ltn (i := 0) (by omega) (by omega)).mpr y)
    have q215 : ∀ t, Steps p.tables e below (T0.setTop (mkF m 252 #[s0, s1, s2, s3, s4, s5, s6, s7, .val (.int (Int32.ofNat o)), .val (.ref a1), .val (.ref a2), .val (.int (-1 : Int32)), s12] [(.int (0 : Int32)), (.ref a2), (.ref a1)])) t → Steps p.tables e below (T0.setTop (mkF m 242 #[s0, s1, s2, s3, s4, s5, s6, s7, .val (.int (Int32.ofNat o)), .val (.ref a1), .val (.ref a2), .val (.int (-1 : Int32)), s12] [])) t := fun t k => q213 t (by
        show Steps p.tables e below (T0.setTop (mkF m 244 #[s0, s1, s2, s3, s4, s5, s6, s7, .val (.int (Int32.ofNat o)), .val (.ref a1), .val (.ref a2), .val (.int (-1 : Int32)), s12] [(.int (Int32.ofNat o))])) _
        refine XS.ifNo X0.here hx rfl (hb hby at_244) rfl (XT.i0_gt_f (ko : ¬ ((0 : Int32) < (Int32.ofNat o)))) ?_
        show Steps p.tables e below (T0.setTop (mkF m 247 #[s0, s1, s2, s3, s4, s5, s6, s7, .val (.int (Int32.ofNat o)), .val (.ref a1), .val (.ref a2), .val (.int (-1 : Int32)), s12] [])) _
        refine XS.aload X0.here hx rfl (hb hby at_247) rfl rfl ?_
        show Steps p.tables e below (T0.setTop (mkF m 249 #[s0, s1, s2, s3, s4, s5, s6, s7, .val (.int (Int32.ofNat o)), .val (.ref a1), .val (.ref a2), .val (.int (-1 : Int32)), s12] [(.ref a1)])) _
        refine XS.aload X0.here hx rfl (hb hby at_249) rfl rfl ?_
        show Steps p.tables e below (T0.setTop (mkF m 251 #[s0, s1, s2, s3, s4, s5, s6, s7, .val (.int (Int32.ofNat o)), .val (.ref a1), .val (.ref a2), .val (.int (-1 : Int32)), s12] [(.ref a2), (.ref a1)])) _
        refine XS.iconst X0.here hx rfl (hb hby at_251) ?_
        show Steps p.tables e below (T0.setTop (mkF m 252 #[s0, s1, s2, s3, s4, s5, s6, s7, .val (.int (Int32.ofNat o)), .val (.ref a1), .val (.ref a2), .val (.int (-1 : Int32)), s12] [(.int (0 : Int32)), (.ref a2), (.ref a1)])) _
        exact k)
    obtain ⟨_, _, ⟨T216, L216, kk216, nn216⟩, -, X216, ⟨Lc216, hQ216, l216, y216, z216⟩, st216⟩ := Jvm.LawKit.callS X0 hx (y := (⟨"com/example/orbweaver/orbweaver/store/GzipMembersIndexOfPinLaw", "matchAt", "([B[BI)Z"⟩ : MethodName)) hown (mvT hZ (hw _ (List.mem_of_getElem? (i := 6) rfl))) (mvT hZ (hw _ (List.mem_of_getElem? (i := 7) rfl))) (mvT hZ (hw _ (List.mem_of_getElem? (i := 4) rfl))) (mvT hZ (hw _ (List.mem_of_getElem? (i := 8) rfl))) (by decide) (backOf (W := 0) (rm5 l Z a0 hw [] a1 a2 n mm 0 hn hm f g cl1 cl2 h0 n0 Z0 (by omega) Ar1 S1 H1 Ar2 S2 H2) hZ (hw _ (List.mem_of_getElem? (i := 8) rfl)) (hw _ (List.mem_of_getElem? (i := 4) rfl)) (by decide) (by decide)) (g := (mkF m 252 #[s0, s1, s2, s3, s4, s5, s6, s7, .val (.int (Int32.ofNat o)), .val (.ref a1), .val (.ref a2), .val (.int (-1 : Int32)), s12] [(.int (0 : Int32)), (.ref a2), (.ref a1)])) rfl (by rw [hml]; rfl) (argsL := [(.ref a1), (.ref a2), (.int (0 : Int32))]) (rest := []) (lenOf pd___B_BI_Z rfl) rfl (by show 2 * 0 + _ ≤ _; exact Nat.le_of_eq rfl) (hb hby at_252) (fun _ _ => ⟨rfl, e0, (by decide : 2 + 0 ≤ _), (by decide : 10 + 0 ≤ _)⟩)
    dsimp only [Pt.U, Pt.locs, Pt.cells, Pt.slots] at X216 l216 y216 z216 st216 hQ216
    subst l216 y216 z216
    obtain ⟨rfl, Nq216, e216⟩ := hQ216
    have N216 := Fr.app N0 Nq216
    have q217 : ∀ t, Steps p.tables e below (T216.setTop (mkF m 255 #[s0, s1, s2, s3, s4, s5, s6, s7, .val (.int (Int32.ofNat o)), .val (.ref a1), .val (.ref a2), .val (.int (-1 : Int32)), s12] [(.int (own_mt f g n mm 0))])) t → Steps p.tables e below (T0.setTop (mkF m 242 #[s0, s1, s2, s3, s4, s5, s6, s7, .val (.int (Int32.ofNat o)), .val (.ref a1), .val (.ref a2), .val (.int (-1 : Int32)), s12] [])) t := fun t k => q215 t (st216 t k)
    by_cases km : (own_mt f g n mm 0) = (0 : Int32)
    · skip
      have q218 : ∀ t, Steps p.tables e below (T216.setTop (mkF m 264 #[s0, s1, s2, s3, s4, s5, s6, s7, .val (.int (Int32.ofNat o)), .val (.ref a1), .val (.ref a2), .val (.int (-1 : Int32)), s12] [])) t → Steps p.tables e below (T0.setTop (mkF m 242 #[s0, s1, s2, s3, s4, s5, s6, s7, .val (.int (Int32.ofNat o)), .val (.ref a1), .val (.ref a2), .val (.int (-1 : Int32)), s12] [])) t := fun t k => q217 t (by
          show Steps p.tables e below (T216.setTop (mkF m 255 #[s0, s1, s2, s3, s4, s5, s6, s7, .val (.int (Int32.ofNat o)), .val (.ref a1), .val (.ref a2), .val (.int (-1 : Int32)), s12] [(.int (own_mt f g n mm 0))])) _
          refine XS.ifYes X216.here hx rfl (pc0 := 255) (pc' := 264) rfl (hb hby at_255) rfl (XT.i0_eq_t (km : (own_mt f g n mm 0) = (0 : Int32))) (by decide) (by decide) ?_
          show Steps p.tables e below (T216.setTop (mkF m 264 #[s0, s1, s2, s3, s4, s5, s6, s7, .val (.int (Int32.ofNat o)), .val (.ref a1), .val (.ref a2), .val (.int (-1 : Int32)), s12] [])) _
          exact k)
      exact Or.inr ⟨_, _, X216, e216, N216, Or.inr km, q218⟩
    · skip
      have q219 : ∀ t, Steps p.tables e below (T216.setTop (mkF m 428 #[s0, s1, s2, s3, s4, s5, s6, s7, .val (.int (Int32.ofNat o)), .val (.ref a1), .val (.ref a2), .val (.int (0 : Int32)), s12] [])) t → Steps p.tables e below (T0.setTop (mkF m 242 #[s0, s1, s2, s3, s4, s5, s6, s7, .val (.int (Int32.ofNat o)), .val (.ref a1), .val (.ref a2), .val (.int (-1 : Int32)), s12] [])) t := fun t k => q217 t (by
          show Steps p.tables e below (T216.setTop (mkF m 255 #[s0, s1, s2, s3, s4, s5, s6, s7, .val (.int (Int32.ofNat o)), .val (.ref a1), .val (.ref a2), .val (.int (-1 : Int32)), s12] [(.int (own_mt f g n mm 0))])) _
          refine XS.ifNo X216.here hx rfl (hb hby at_255) rfl (XT.i0_eq_f (km : ¬ ((own_mt f g n mm 0) = (0 : Int32)))) ?_
          show Steps p.tables e below (T216.setTop (mkF m 258 #[s0, s1, s2, s3, s4, s5, s6, s7, .val (.int (Int32.ofNat o)), .val (.ref a1), .val (.ref a2), .val (.int (-1 : Int32)), s12] [])) _
          refine XS.iconst X216.here hx rfl (hb hby at_258) ?_
          show Steps p.tables e below (T216.setTop (mkF m 259 #[s0, s1, s2, s3, s4, s5, s6, s7, .val (.int (Int32.ofNat o)), .val (.ref a1), .val (.ref a2), .val (.int (-1 : Int32)), s12] [(.int (0 : Int32))])) _
          refine XS.istore X216.here hx rfl (hb hby at_259) rfl (l' := #[s0, s1, s2, s3, s4, s5, s6, s7, .val (.int (Int32.ofNat o)), .val (.ref a1), .val (.ref a2), .val (.int (0 : Int32)), s12]) rfl ?_
          show Steps p.tables e below (T216.setTop (mkF m 261 #[s0, s1, s2, s3, s4, s5, s6, s7, .val (.int (Int32.ofNat o)), .val (.ref a1), .val (.ref a2), .val (.int (0 : Int32)), s12] [])) _
          refine XS.goto X216.here hx rfl (pc0 := 261) (pc' := 428) rfl (hb hby at_261) (by decide) (by decide) ?_
          show Steps p.tables e below (T216.setTop (mkF m 428 #[s0, s1, s2, s3, s4, s5, s6, s7, .val (.int (Int32.ofNat o)), .val (.ref a1), .val (.ref a2), .val (.int (0 : Int32)), s12] [])) _
          exact k)
      exact Or.inl ⟨_, _, X216, e216, N216, ho', km, q219⟩
set_option maxRecDepth 65536 in
set_option maxHeartbeats 40000000 in
theorem sm1 {p : Program} {l : Launch} {e : Env} {s : State} {m : MethodId} {args : Array Value} {below : List Frame} {meth : Method} {c : Code} {T0 : State} {locs : List Loc} {Z : State} {a0 : Array Value} {h0 : Heap} (s0 s1 s2 s3 s4 s5 s6 s7 s12 : Slot) (a1 a2 : Addr) (n mm o : Nat) (hn : n ≤ 7) (hm : mm ≤ 3) (ho : o ≤ 9) (f g : Nat → Int32) (cl1 cl2 : Cell) (n0 : Nat)
    (X0 : Stand p l e room_1 s m args below meth c T0 locs 2 10) (hx : p.tables.exec = Jvm.exec) (hZ : Z.Warmed39 s.vm) (hw : ∀ d ∈ tables_1, d.before a0 Z = true) (hby : c.code = code) (hml : c.maxLocals = 13) (hown : s.vm.findClass "com/example/orbweaver/orbweaver/store/GzipMembersIndexOfPinLaw" = some m.cls) (e0 : T0.heap = h0) (Z0 : n0 ≤ h0.size) (N0 : Fr n0 locs) (Ar1 : Arr Z h0 a1 cl1 .byte) (S1 : cl1.slots.size = n) (H1 : ∀ i, i < cl1.slots.size → cl1.slots[i]? = some (.int (f i))) (Ar2 : Arr Z h0 a2 cl2 .byte) (S2 : cl2.slots.size = mm) (H2 : ∀ i, i < cl2.slots.size → cl2.slots[i]? = some (.int (g i))) :
    (∃ (T' : State) (locs' : List Loc), Stand p l e room_1 s m args below meth c T' locs' 2 10 ∧ T'.heap = h0 ∧ Fr n0 locs' ∧ o ≤ 1 ∧ ¬ own_mt f g n mm 1 = 0 ∧ ∀ t, Steps p.tables e below (T'.setTop (mkF m 428 #[s0, s1, s2, s3, s4, s5, s6, s7, .val (.int (Int32.ofNat o)), .val (.ref a1), .val (.ref a2), .val (.int (1 : Int32)), s12] [])) t → Steps p.tables e below (T0.setTop (mkF m 264 #[s0, s1, s2, s3, s4, s5, s6, s7, .val (.int (Int32.ofNat o)), .val (.ref a1), .val (.ref a2), .val (.int (-1 : Int32)), s12] [])) t) ∨ (∃ (T' : State) (locs' : List Loc), Stand p l e room_1 s m args below meth c T' locs' 2 10 ∧ T'.heap = h0 ∧ Fr n0 locs' ∧ (1 < o ∨ own_mt f g n mm 1 = 0) ∧ ∀ t, Steps p.tables e below (T'.setTop (mkF m 287 #[s0, s1, s2, s3, s4, s5, s6, s7, .val (.int (Int32.ofNat o)), .val (.ref a1), .val (.ref a2), .val (.int (-1 : Int32)), s12] [])) t → Steps p.tables e below (T0.setTop (mkF m 264 #[s0, s1, s2, s3, s4, s5, s6, s7, .val (.int (Int32.ofNat o)), .val (.ref a1), .val (.ref a2), .val (.int (-1 : Int32)), s12] [])) t) := by
  have pre0 : ∀ t, Steps p.tables e below (T0.setTop (mkF m 264 #[s0, s1, s2, s3, s4, s5, s6, s7, .val (.int (Int32.ofNat o)), .val (.ref a1), .val (.ref a2), .val (.int (-1 : Int32)), s12] [])) t → Steps p.tables e below (T0.setTop (mkF m 264 #[s0, s1, s2, s3, s4, s5, s6, s7, .val (.int (Int32.ofNat o)), .val (.ref a1), .val (.ref a2), .val (.int (-1 : Int32)), s12] [])) t := fun t k => k
  have q220 : ∀ t, Steps p.tables e below (T0.setTop (mkF m 267 #[s0, s1, s2, s3, s4, s5, s6, s7, .val (.int (Int32.ofNat o)), .val (.ref a1), .val (.ref a2), .val (.int (-1 : Int32)), s12] [(.int (1 : Int32)), (.int (Int32.ofNat o))])) t → Steps p.tables e below (T0.setTop (mkF m 264 #[s0, s1, s2, s3, s4, s5, s6, s7, .val (.int (Int32.ofNat o)), .val (.ref a1), .val (.ref a2), .val (.int (-1 : Int32)), s12] [])) t := fun t k => pre0 t (by
      show Steps p.tables e below (T0.setTop (mkF m 264 #[s0, s1, s2, s3, s4, s5, s6, s7, .val (.int (Int32.ofNat o)), .val (.ref a1), .val (.ref a2), .val (.int (-1 : Int32)), s12] [])) _
      refine XS.iload X0.here hx rfl (hb hby at_264) rfl ?_
      show Steps p.tables e below (T0.setTop (mkF m 266 #[s0, s1, s2, s3, s4, s5, s6, s7, .val (.int (Int32.ofNat o)), .val (.ref a1), .val (.ref a2), .val (.int (-1 : Int32)), s12] [(.int (Int32.ofNat o))])) _
      refine XS.iconst X0.here hx rfl (hb hby at_266) ?_
      show Steps p.tables e below (T0.setTop (mkF m 267 #[s0, s1, s2, s3, s4, s5, s6, s7, .val (.int (Int32.ofNat o)), .val (.ref a1), .val (.ref a2), .val (.int (-1 : Int32)), s12] [(.int (1 : Int32)), (.int (Int32.ofNat o))])) _
      exact k)
  by_cases ko : (1 : Int32) < (Int32.ofNat o)
  · skip
    have q221 : ∀ t, Steps p.tables e below (T0.setTop (mkF m 287 #[s0, s1, s2, s3, s4, s5, s6, s7, .val (.int (Int32.ofNat o)), .val (.ref a1), .val (.ref a2), .val (.int (-1 : Int32)), s12] [])) t → Steps p.tables e below (T0.setTop (mkF m 264 #[s0, s1, s2, s3, s4, s5, s6, s7, .val (.int (Int32.ofNat o)), .val (.ref a1), .val (.ref a2), .val (.int (-1 : Int32)), s12] [])) t := fun t k => q220 t (by
        show Steps p.tables e below (T0.setTop (mkF m 267 #[s0, s1, s2, s3, s4, s5, s6, s7, .val (.int (Int32.ofNat o)), .val (.ref a1), .val (.ref a2), .val (.int (-1 : Int32)), s12] [(.int (1 : Int32)), (.int (Int32.ofNat o))])) _
        refine XS.icmpYes X0.here hx rfl (pc0 := 267) (pc' := 287) rfl (hb hby at_267) rfl (XT.ii_gt_t (ko : (1 : Int32) < (Int32.ofNat o))) (by decide) (by decide) ?_
        show Steps p.tables e below (T0.setTop (mkF m 287 #[s0, s1, s2, s3, s4, s5, s6, s7, .val (.int (Int32.ofNat o)), .val (.ref a1), .val (.ref a2), .val (.int (-1 : Int32)), s12] [])) _
        exact k)
    exact Or.inr ⟨_, _, X0, e0, N0, Or.inl ((own_ltn (i := 1) (by omega) (by omega)).mp ko), q221⟩
  · skip
    have ho' : o ≤ 1 := Nat.le_of_not_lt fun y => ko ((own_ltn (i := 1) (by omega) (by omega)).mpr y)
    have q222 : ∀ t, Steps p.tables e below (T0.setTop (mkF m 275 #[s0, s1, s2, s3, s4, s5, s6, s7, .val (.int (Int32.ofNat o)), .val (.ref a1), .val (.ref a2), .val (.int (-1 : Int32)), s12] [(.int (1 : Int32)), (.ref a2), (.ref a1)])) t → Steps p.tables e below (T0.setTop (mkF m 264 #[s0, s1, s2, s3, s4, s5, s6, s7, .val (.int (Int32.ofNat o)), .val (.ref a1), .val (.ref a2), .val (.int (-1 : Int32)), s12] [])) t := fun t k => q220 t (by
        show Steps p.tables e below (T0.setTop (mkF m 267 #[s0, s1, s2, s3, s4, s5, s6, s7, .val (.int (Int32.ofNat o)), .val (.ref a1), .val (.ref a2), .val (.int (-1 : Int32)), s12] [(.int (1 : Int32)), (.int (Int32.ofNat o))])) _
        refine XS.icmpNo X0.here hx rfl (hb hby at_267) rfl (XT.ii_gt_f (ko : ¬ ((1 : Int32) < (Int32.ofNat o)))) ?_
        show Steps p.tables e below (T0.setTop (mkF m 270 #[s0, s1, s2, s3, s4, s5, s6, s7, .val (.int (Int32.ofNat o)), .val (.ref a1), .val (.ref a2), .val (.int (-1 : Int32)), s12] [])) _
        refine XS.aload X0.here hx rfl (hb hby at_270) rfl rfl ?_
        show Steps p.tables e below (T0.setTop (mkF m 272 #[s0, s1, s2, s3, s4, s5, s6, s7, .val (.int (Int32.ofNat o)), .val (.ref a1), .val (.ref a2), .val (.int (-1 : Int32)), s12] [(.ref a1)])) _
        refine XS.aload X0.here hx rfl (hb hby at_272) rfl rfl ?_
        show Steps p.tables e below (T0.setTop (mkF m 274 #[s0, s1, s2, s3, s4, s5, s6, s7, .val (.int (Int32.ofNat o)), .val (.ref a1), .val (.ref a2), .val (.int (-1 : Int32)), s12] [(.ref a2), (.ref a1)])) _
        refine XS.iconst X0.here hx rfl (hb hby at_274) ?_
        show Steps p.tables e below (T0.setTop (mkF m 275 #[s0, s1, s2, s3, s4, s5, s6, s7, .val (.int (Int32.ofNat o)), .val (.ref a1), .val (.ref a2), .val (.int (-1 : Int32)), s12] [(.int (1 : Int32)), (.ref a2), (.ref a1)])) _
        exact k)
    obtain ⟨_, _, ⟨T223, L223, kk223, nn223⟩, -, X223, ⟨Lc223, hQ223, l223, y223, z223⟩, st223⟩ := Jvm.LawKit.callS X0 hx (y := (⟨"com/example/orbweaver/orbweaver/store/GzipMembersIndexOfPinLaw", "matchAt", "([B[BI)Z"⟩ : MethodName)) hown (mvT hZ (hw _ (List.mem_of_getElem? (i := 6) rfl))) (mvT hZ (hw _ (List.mem_of_getElem? (i := 7) rfl))) (mvT hZ (hw _ (List.mem_of_getElem? (i := 4) rfl))) (mvT hZ (hw _ (List.mem_of_getElem? (i := 8) rfl))) (by decide) (backOf (W := 0) (rm5 l Z a0 hw [] a1 a2 n mm 1 hn hm f g cl1 cl2 h0 n0 Z0 (by omega) Ar1 S1 H1 Ar2 S2 H2) hZ (hw _ (List.mem_of_getElem? (i := 8) rfl)) (hw _ (List.mem_of_getElem? (i := 4) rfl)) (by decide) (by decide)) (g := (mkF m 275 #[s0, s1, s2, s3, s4, s5, s6, s7, .val (.int (Int32.ofNat o)), .val (.ref a1), .val (.ref a2), .val (.int (-1 : Int32)), s12] [(.int (1 : Int32)), (.ref a2), (.ref a1)])) rfl (by rw [hml]; rfl) (argsL := [(.ref a1), (.ref a2), (.int (1 : Int32))]) (rest := []) (lenOf pd___B_BI_Z rfl) rfl (by show 2 * 0 + _ ≤ _; exact Nat.le_of_eq rfl) (hb hby at_275) (fun _ _ => ⟨rfl, e0, (by decide : 2 + 0 ≤ _), (by decide : 10 + 0 ≤ _)⟩)
    dsimp only [Pt.U, Pt.locs, Pt.cells, Pt.slots] at X223 l223 y223 z223 st223 hQ223
    subst l223 y223 z223
    obtain ⟨rfl, Nq223, e223⟩ := hQ223
    have N223 := Fr.app N0 Nq223
    have q224 : ∀ t, Steps p.tables e below (T223.setTop (mkF m 278 #[s0, s1, s2, s3, s4, s5, s6, s7, .val (.int (Int32.ofNat o)), .val (.ref a1), .val (.ref a2), .val (.int (-1 : Int32)), s12] [(.int (own_mt f g n mm 1))])) t → Steps p.tables e below (T0.setTop (mkF m 264 #[s0, s1, s2, s3, s4, s5, s6, s7, .val (.int (Int32.ofNat o)), .val (.ref a1), .val (.ref a2), .val (.int (-1 : Int32)), s12] [])) t := fun t k => q222 t (st223 t k)
    by_cases km : (own_mt f g n mm 1) = (0 : Int32)
    · skip
      have q225 : ∀ t, Steps p.tables e below (T223.setTop (mkF m 287 #[s0, s1, s2, s3, s4, s5, s6, s7, .val (.int (Int32.ofNat o)), .val (.ref a1), .val (.ref a2), .val (.int (-1 : Int32)), s12] [])) t → Steps p.tables e below (T0.setTop (mkF m 264 #[s0, s1, s2, s3, s4, s5, s6, s7, .val (.int (Int32.ofNat o)), .val (.ref a1), .val (.ref a2), .val (.int (-1 : Int32)), s12] [])) t := fun t k => q224 t (by
          show Steps p.tables e below (T223.setTop (mkF m 278 #[s0, s1, s2, s3, s4, s5, s6, s7, .val (.int (Int32.ofNat o)), .val (.ref a1), .val (.ref a2), .val (.int (-1 : Int32)), s12] [(.int (own_mt f g n mm 1))])) _
          refine XS.ifYes X223.here hx rfl (pc0 := 278) (pc' := 287) rfl (hb hby at_278) rfl (XT.i0_eq_t (km : (own_mt f g n mm 1) = (0 : Int32))) (by decide) (by decide) ?_
          show Steps p.tables e below (T223.setTop (mkF m 287 #[s0, s1, s2, s3, s4, s5, s6, s7, .val (.int (Int32.ofNat o)), .val (.ref a1), .val (.ref a2), .val (.int (-1 : Int32)), s12] [])) _
          exact k)
      exact Or.inr ⟨_, _, X223, e223, N223, Or.inr km, q225⟩
    · skip
      have q226 : ∀ t, Steps p.tables e below (T223.setTop (mkF m 428 #[s0, s1, s2, s3, s4, s5, s6, s7, .val (.int (Int32.ofNat o)), .val (.ref a1), .val (.ref a2), .val (.int (1 : Int32)), s12] [])) t → Steps p.tables e below (T0.setTop (mkF m 264 #[s0, s1, s2, s3, s4, s5, s6, s7, .val (.int (Int32.ofNat o)), .val (.ref a1), .val (.ref a2), .val (.int (-1 : Int32)), s12] [])) t := fun t k => q224 t (by
          show Steps p.tables e below (T223.setTop (mkF m 278 #[s0, s1, s2, s3, s4, s5, s6, s7, .val (.int (Int32.ofNat o)), .val (.ref a1), .val (.ref a2), .val (.int (-1 : Int32)), s12] [(.int (own_mt f g n mm 1))])) _
          refine XS.ifNo X223.here hx rfl (hb hby at_278) rfl (XT.i0_eq_f (km : ¬ ((own_mt f g n mm 1) = (0 : Int32)))) ?_
          show Steps p.tables e below (T223.setTop (mkF m 281 #[s0, s1, s2, s3, s4, s5, s6, s7, .val (.int (Int32.ofNat o)), .val (.ref a1), .val (.ref a2), .val (.int (-1 : Int32)), s12] [])) _
          refine XS.iconst X223.here hx rfl (hb hby at_281) ?_
          show Steps p.tables e below (T223.setTop (mkF m 282 #[s0, s1, s2, s3, s4, s5, s6, s7, .val (.int (Int32.ofNat o)), .val (.ref a1), .val (.ref a2), .val (.int (-1 : Int32)), s12] [(.int (1 : Int32))])) _
          refine XS.istore X223.here hx rfl (hb hby at_282) rfl (l' := #[s0, s1, s2, s3, s4, s5, s6, s7, .val (.int (Int32.ofNat o)), .val (.ref a1), .val (.ref a2), .val (.int (1 : Int32)), s12]) rfl ?_
          show Steps p.tables e below (T223.setTop (mkF m 284 #[s0, s1, s2, s3, s4, s5, s6, s7, .val (.int (Int32.ofNat o)), .val (.ref a1), .val (.ref a2), .val (.int (1 : Int32)), s12] [])) _
          refine XS.goto X223.here hx rfl (pc0 := 284) (pc' := 428) rfl (hb hby at_284) (by decide) (by decide) ?_
          show Steps p.tables e below (T223.setTop (mkF m 428 #[s0, s1, s2, s3, s4, s5, s6, s7, .val (.int (Int32.ofNat o)), .val (.ref a1), .val (.ref a2), .val (.int (1 : Int32)), s12] [])) _
          exact k)
      exact Or.inl ⟨_, _, X223, e223, N223, ho', km, q226⟩
set_option maxRecDepth 65536 in
set_option maxHeartbeats 40000000 in
theorem sm2 {p : Program} {l : Launch} {e : Env} {s : State} {m : MethodId} {args : Array Value} {below : List Frame} {meth : Method} {c : Code} {T0 : State} {locs : List Loc} {Z : State} {a0 : Array Value} {h0 : Heap} (s0 s1 s2 s3 s4 s5 s6 s7 s12 : Slot) (a1 a2 : Addr) (n mm o : Nat) (hn : n ≤ 7) (hm : mm ≤ 3) (ho : o ≤ 9) (f g : Nat → Int32) (cl1 cl2 : Cell) (n0 : Nat)
    (X0 : Stand p l e room_1 s m args below meth c T0 locs 2 10) (hx : p.tables.exec = Jvm.exec) (hZ : Z.Warmed39 s.vm) (hw : ∀ d ∈ tables_1, d.before a0 Z = true) (hby : c.code = code) (hml : c.maxLocals = 13) (hown : s.vm.findClass "com/example/orbweaver/orbweaver/store/GzipMembersIndexOfPinLaw" = some m.cls) (e0 : T0.heap = h0) (Z0 : n0 ≤ h0.size) (N0 : Fr n0 locs) (Ar1 : Arr Z h0 a1 cl1 .byte) (S1 : cl1.slots.size = n) (H1 : ∀ i, i < cl1.slots.size → cl1.slots[i]? = some (.int (f i))) (Ar2 : Arr Z h0 a2 cl2 .byte) (S2 : cl2.slots.size = mm) (H2 : ∀ i, i < cl2.slots.size → cl2.slots[i]? = some (.int (g i))) :
    (∃ (T' : State) (locs' : List Loc), Stand p l e room_1 s m args below meth c T' locs' 2 10 ∧ T'.heap = h0 ∧ Fr n0 locs' ∧ o ≤ 2 ∧ ¬ own_mt f g n mm 2 = 0 ∧ ∀ t, Steps p.tables e below (T'.setTop (mkF m 428 #[s0, s1, s2, s3, s4, s5, s6, s7, .val (.int (Int32.ofNat o)), .val (.ref a1), .val (.ref a2), .val (.int (2 : Int32)), s12] [])) t → Steps p.tables e below (T0.setTop (mkF m 287 #[s0, s1, s2, s3, s4, s5, s6, s7, .val (.int (Int32.ofNat o)), .val (.ref a1), .val (.ref a2), .val (.int (-1 : Int32)), s12] [])) t) ∨ (∃ (T' : State) (locs' : List Loc), Stand p l e room_1 s m args below meth c T' locs' 2 10 ∧ T'.heap = h0 ∧ Fr n0 locs' ∧ (2 < o ∨ own_mt f g n mm 2 = 0) ∧ ∀ t, Steps p.tables e below (T'.setTop (mkF m 310 #[s0, s1, s2, s3, s4, s5, s6, s7, .val (.int (Int32.ofNat o)), .val (.ref a1), .val (.ref a2), .val (.int (-1 : Int32)), s12] [])) t → Steps p.tables e below (T0.setTop (mkF m 287 #[s0, s1, s2, s3, s4, s5, s6, s7, .val (.int (Int32.ofNat o)), .val (.ref a1), .val (.ref a2), .val (.int (-1 : Int32)), s12] [])) t) := by
  have pre0 : ∀ t, Steps p.tables e below (T0.setTop (mkF m 287 #[s0, s1, s2, s3, s4, s5, s6, s7, .val (.int (Int32.ofNat o)), .val (.ref a1), .val (.ref a2), .val (.int (-1 : Int32)), s12] [])) t → Steps p.tables e below (T0.setTop (mkF m 287 #[s0, s1, s2, s3, s4, s5, s6, s7, .val (.int (Int32.ofNat o)), .val (.ref a1), .val (.ref a2), .val (.int (-1 : Int32)), s12] [])) t := fun t k => k
  have q227 : ∀ t, Steps p.tables e below (T0.setTop (mkF m 290 #[s0, s1, s2, s3, s4, s5, s6, s7, .val (.int (Int32.ofNat o)), .val (.ref a1), .val (.ref a2), .val (.int (-1 : Int32)), s12] [(.int (2 : Int32)), (.int (Int32.ofNat o))])) t → Steps p.tables e below (T0.setTop (mkF m 287 #[s0, s1, s2, s3, s4, s5, s6, s7, .val (.int (Int32.ofNat o)), .val (.ref a1), .val (.ref a2), .val (.int (-1 : Int32)), s12] [])) t := fun t k => pre0 t (by
      show Steps p.tables e below (T0.setTop (mkF m 287 #[s0, s1, s2, s3, s4, s5, s6, s7, .val (.int (Int32.ofNat o)), .val (.ref a1), .val (.ref a2), .val (.int (-1 : Int32)), s12] [])) _
      refine XS.iload X0.here hx rfl (hb hby at_287) rfl ?_
      show Steps p.tables e below (T0.setTop (mkF m 289 #[s0, s1, s2, s3, s4, s5, s6, s7, .val (.int (Int32.ofNat o)), .val (.ref a1), .val (.ref a2), .val (.int (-1 : Int32)), s12] [(.int (Int32.ofNat o))])) _
      refine XS.iconst X0.here hx rfl (hb hby at_289) ?_
      show Steps p.tables e below (T0.setTop (mkF m 290 #[s0, s1, s2, s3, s4, s5, s6, s7, .val (.int (Int32.ofNat o)), .val (.ref a1), .val (.ref a2), .val (.int (-1 : Int32)), s12] [(.int (2 : Int32)), (.int (Int32.ofNat o))])) _
      exact k)
  by_cases ko : (2 : Int32) < (Int32.ofNat o)
  · skip
    have q228 : ∀ t, Steps p.tables e below (T0.setTop (mkF m 310 #[s0, s1, s2, s3, s4, s5, s6, s7, .val (.int (Int32.ofNat o)), .val (.ref a1), .val (.ref a2), .val (.int (-1 : Int32)), s12] [])) t → Steps p.tables e below (T0.setTop (mkF m 287 #[s0, s1, s2, s3, s4, s5, s6, s7, .val (.int (Int32.ofNat o)), .val (.ref a1), .val (.ref a2), .val (.int (-1 : Int32)), s12] [])) t := fun t k => q227 t (by
        show Steps p.tables e below (T0.setTop (mkF m 290 #[s0, s1, s2, s3, s4, s5, s6, s7, .val (.int (Int32.ofNat o)), .val (.ref a1), .val (.ref a2), .val (.int (-1 : Int32)), s12] [(.int (2 : Int32)), (.int (Int32.ofNat o))])) _
        refine XS.icmpYes X0.here hx rfl (pc0 := 290) (pc' := 310) rfl (hb hby at_290) rfl (XT.ii_gt_t (ko : (2 : Int32) < (Int32.ofNat o))) (by decide) (by decide) ?_
        show Steps p.tables e below (T0.setTop (mkF m 310 #[s0, s1, s2, s3, s4, s5, s6, s7, .val (.int (Int32.ofNat o)), .val (.ref a1), .val (.ref a2), .val (.int (-1 : Int32)), s12] [])) _
        exact k)
    exact Or.inr ⟨_, _, X0, e0, N0, Or.inl ((own_ltn (i := 2) (by omega) (by omega)).mp ko), q228⟩
  · skip
    have ho' : o ≤ 2 := Nat.le_of_not_lt fun y => ko ((own_ltn (i := 2) (by omega) (by omega)).mpr y)
    have q229 : ∀ t, Steps p.tables e below (T0.setTop (mkF m 298 #[s0, s1, s2, s3, s4, s5, s6, s7, .val (.int (Int32.ofNat o)), .val (.ref a1), .val (.ref a2), .val (.int (-1 : Int32)), s12] [(.int (2 : Int32)), (.ref a2), (.ref a1)])) t → Steps p.tables e below (T0.setTop (mkF m 287 #[s0, s1, s2, s3, s4, s5, s6, s7, .val (.int (Int32.ofNat o)), .val (.ref a1), .val (.ref a2), .val (.int (-1 : Int32)), s12] [])) t := fun t k => q227 t (by
        show Steps p.tables e below (T0.setTop (mkF m 290 #[s0, s1, s2, s3, s4, s5, s6, s7, .val (.int (Int32.ofNat o)), .val (.ref a1), .val (.ref a2), .val (.int (-1 : Int32)), s12] [(.int (2 : Int32)), (.int (Int32.ofNat o))])) _
        refine XS.icmpNo X0.here hx rfl (hb hby at_290) rfl (XT.ii_gt_f (ko : ¬ ((2 : Int32) < (Int32.ofNat o)))) ?_
        show Steps p.tables e below (T0.setTop (mkF m 293 #[s0, s1, s2, s3, s4, s5, s6, s7, .val (.int (Int32.ofNat o)), .val (.ref a1), .val (.ref a2), .val (.int (-1 : Int32)), s12] [])) _
        refine XS.aload X0.here hx rfl (hb hby at_293) rfl rfl ?_
        show Steps p.tables e below (T0.setTop (mkF m 295 #[s0, s1, s2, s3, s4, s5, s6, s7, .val (.int (Int32.ofNat o)), .val (.ref a1), .val (.ref a2), .val (.int (-1 : Int32)), s12] [(.ref a1)])) _
        refine XS.aload X0.here hx rfl (hb hby at_295) rfl rfl ?_
        show Steps p.tables e below (T0.setTop (mkF m 297 #[s0, s1, s2, s3, s4, s5, s6, s7, .val (.int (Int32.ofNat o)), .val (.ref a1), .val (.ref a2), .val (.int (-1 : Int32)), s12] [(.ref a2), (.ref a1)])) _
        refine XS.iconst X0.here hx rfl (hb hby at_297) ?_
        show Steps p.tables e below (T0.setTop (mkF m 298 #[s0, s1, s2, s3, s4, s5, s6, s7, .val (.int (Int32.ofNat o)), .val (.ref a1), .val (.ref a2), .val (.int (-1 : Int32)), s12] [(.int (2 : Int32)), (.ref a2), (.ref a1)])) _
        exact k)
    obtain ⟨_, _, ⟨T230, L230, kk230, nn230⟩, -, X230, ⟨Lc230, hQ230, l230, y230, z230⟩, st230⟩ := Jvm.LawKit.callS X0 hx (y := (⟨"com/example/orbweaver/orbweaver/store/GzipMembersIndexOfPinLaw", "matchAt", "([B[BI)Z"⟩ : MethodName)) hown (mvT hZ (hw _ (List.mem_of_getElem? (i := 6) rfl))) (mvT hZ (hw _ (List.mem_of_getElem? (i := 7) rfl))) (mvT hZ (hw _ (List.mem_of_getElem? (i := 4) rfl))) (mvT hZ (hw _ (List.mem_of_getElem? (i := 8) rfl))) (by decide) (backOf (W := 0) (rm5 l Z a0 hw [] a1 a2 n mm 2 hn hm f g cl1 cl2 h0 n0 Z0 (by omega) Ar1 S1 H1 Ar2 S2 H2) hZ (hw _ (List.mem_of_getElem? (i := 8) rfl)) (hw _ (List.mem_of_getElem? (i := 4) rfl)) (by decide) (by decide)) (g := (mkF m 298 #[s0, s1, s2, s3, s4, s5, s6, s7, .val (.int (Int32.ofNat o)), .val (.ref a1), .val (.ref a2), .val (.int (-1 : Int32)), s12] [(.int (2 : Int32)), (.ref a2), (.ref a1)])) rfl (by rw [hml]; rfl) (argsL := [(.ref a1), (.ref a2), (.int (2 : Int32))]) (rest := []) (lenOf pd___B_BI_Z rfl) rfl (by show 2 * 0 + _ ≤ _; exact Nat.le_of_eq rfl) (hb hby at_298) (fun _ _ => ⟨rfl, e0, (by decide : 2 + 0 ≤ _), (by decide : 10 + 0 ≤ _)⟩)
    dsimp only [Pt.U, Pt.locs, Pt.cells, Pt.slots] at X230 l230 y230 z230 st230 hQ230
    subst l230 y230 z230
    obtain ⟨rfl, Nq230, e230⟩ := hQ230
    have N230 := Fr.app N0 Nq230
    have q231 : ∀ t, Steps p.tables e below (T230.setTop (mkF m 301 #[s0, s1, s2, s3, s4, s5, s6, s7, .val (.int (Int32.ofNat o)), .val (.ref a1), .val (.ref a2), .val (.int (-1 : Int32)), s12] [(.int (own_mt f g n mm 2))])) t → Steps p.tables e below (T0.setTop (mkF m 287 #[s0, s1, s2, s3, s4, s5, s6, s7, .val (.int (Int32.ofNat o)), .val (.ref a1), .val (.ref a2), .val (.int (-1 : Int32)), s12] [])) t := fun t k => q229 t (st230 t k)
    by_cases km : (own_mt f g n mm 2) = (0 : Int32)
    · skip
      have q232 : ∀ t, Steps p.tables e below (T230.setTop (mkF m 310 #[s0, s1, s2, s3, s4, s5, s6, s7, .val (.int (Int32.ofNat o)), .val (.ref a1), .val (.ref a2), .val (.int (-1 : Int32)), s12] [])) t → Steps p.tables e below (T0.setTop (mkF m 287 #[s0, s1, s2, s3, s4, s5, s6, s7, .val (.int (Int32.ofNat o)), .val (.ref a1), .val (.ref a2), .val (.int (-1 : Int32)), s12] [])) t := fun t k => q231 t (by
          show Steps p.tables e below (T230.setTop (mkF m 301 #[s0, s1, s2, s3, s4, s5, s6, s7, .val (.int (Int32.ofNat o)), .val (.ref a1), .val (.ref a2), .val (.int (-1 : Int32)), s12] [(.int (own_mt f g n mm 2))])) _
          refine XS.ifYes X230.here hx rfl (pc0 := 301) (pc' := 310) rfl (hb hby at_301) rfl (XT.i0_eq_t (km : (own_mt f g n mm 2) = (0 : Int32))) (by decide) (by decide) ?_
          show Steps p.tables e below (T230.setTop (mkF m 310 #[s0, s1, s2, s3, s4, s5, s6, s7, .val (.int (Int32.ofNat o)), .val (.ref a1), .val (.ref a2), .val (.int (-1 : Int32)), s12] [])) _
          exact k)
      exact Or.inr ⟨_, _, X230, e230, N230, Or.inr km, q232⟩
    · skip
      have q233 : ∀ t, Steps p.tables e below (T230.setTop (mkF m 428 #[s0, s1, s2, s3, s4, s5, s6, s7, .val (.int (Int32.ofNat o)), .val (.ref a1), .val (.ref a2), .val (.int (2 : Int32)), s12] [])) t → Steps p.tables e below (T0.setTop (mkF m 287 #[s0, s1, s2, s3, s4, s5, s6, s7, .val (.int (Int32.ofNat o)), .val (.ref a1), .val (.ref a2), .val (.int (-1 : Int32)), s12] [])) t := fun t k => q231 t (by
          show Steps p.tables e below (T230.setTop (mkF m 301 #[s0, s1, s2, s3, s4, s5, s6, s7, .val (.int (Int32.ofNat o)), .val (.ref a1), .val (.ref a2), .val (.int (-1 : Int32)), s12] [(.int (own_mt f g n mm 2))])) _
          refine XS.ifNo X230.here hx rfl (hb hby at_301) rfl (XT.i0_eq_f (km : ¬ ((own_mt f g n mm 2) = (0 : Int32)))) ?_
          show Steps p.tables e below (T230.setTop (mkF m 304 #[s0, s1, s2, s3, s4, s5, s6, s7, .val (.int (Int32.ofNat o)), .val (.ref a1), .val (.ref a2), .val (.int (-1 : Int32)), s12] [])) _
          refine XS.iconst X230.here hx rfl (hb hby at_304) ?_
          show Steps p.tables e below (T230.setTop (mkF m 305 #[s0, s1, s2, s3, s4, s5, s6, s7, .val (.int (Int32.ofNat o)), .val (.ref a1), .val (.ref a2), .val (.int (-1 : Int32)), s12] [(.int (2 : Int32))])) _
          refine XS.istore X230.here hx rfl (hb hby at_305) rfl (l' := #[s0, s1, s2, s3, s4, s5, s6, s7, .val (.int (Int32.ofNat o)), .val (.ref a1), .val (.ref a2), .val (.int (2 : Int32)), s12]) rfl ?_
          show Steps p.tables e below (T230.setTop (mkF m 307 #[s0, s1, s2, s3, s4, s5, s6, s7, .val (.int (Int32.ofNat o)), .val (.ref a1), .val (.ref a2), .val (.int (2 : Int32)), s12] [])) _
          refine XS.goto X230.here hx rfl (pc0 := 307) (pc' := 428) rfl (hb hby at_307) (by decide) (by decide) ?_
          show Steps p.tables e below (T230.setTop (mkF m 428 #[s0, s1, s2, s3, s4, s5, s6, s7, .val (.int (Int32.ofNat o)), .val (.ref a1), .val (.ref a2), .val (.int (2 : Int32)), s12] [])) _
          exact k)
      exact Or.inl ⟨_, _, X230, e230, N230, ho', km, q233⟩
set_option maxRecDepth 65536 in
set_option maxHeartbeats 40000000 in
theorem sm3 {p : Program} {l : Launch} {e : Env} {s : State} {m : MethodId} {args : Array Value} {below : List Frame} {meth : Method} {c : Code} {T0 : State} {locs : List Loc} {Z : State} {a0 : Array Value} {h0 : Heap} (s0 s1 s2 s3 s4 s5 s6 s7 s12 : Slot) (a1 a2 : Addr) (n mm o : Nat) (hn : n ≤ 7) (hm : mm ≤ 3) (ho : o ≤ 9) (f g : Nat → Int32) (cl1 cl2 : Cell) (n0 : Nat)
    (X0 : Stand p l e room_1 s m args below meth c T0 locs 2 10) (hx : p.tables.exec = Jvm.exec) (hZ : Z.Warmed39 s.vm) (hw : ∀ d ∈ tables_1, d.before a0 Z = true) (hby : c.code = code) (hml : c.maxLocals = 13) (hown : s.vm.findClass "com/example/orbweaver/orbweaver/store/GzipMembersIndexOfPinLaw" = some m.cls) (e0 : T0.heap = h0) (Z0 : n0 ≤ h0.size) (N0 : Fr n0 locs) (Ar1 : Arr Z h0 a1 cl1 .byte) (S1 : cl1.slots.size = n) (H1 : ∀ i, i < cl1.slots.size → cl1.slots[i]? = some (.int (f i))) (Ar2 : Arr Z h0 a2 cl2 .byte) (S2 : cl2.slots.size = mm) (H2 : ∀ i, i < cl2.slots.size → cl2.slots[i]? = some (.int (g i))) :
    (∃ (T' : State) (locs' : List Loc), Stand p l e room_1 s m args below meth c T' locs' 2 10 ∧ T'.heap = h0 ∧ Fr n0 locs' ∧ o ≤ 3 ∧ ¬ own_mt f g n mm 3 = 0 ∧ ∀ t, Steps p.tables e below (T'.setTop (mkF m 428 #[s0, s1, s2, s3, s4, s5, s6, s7, .val (.int (Int32.ofNat o)), .val (.ref a1), .val (.ref a2), .val (.int (3 : Int32)), s12] [])) t → Steps p.tables e below (T0.setTop (mkF m 310 #[s0, s1, s2, s3, s4, s5, s6, s7, .val (.int (Int32.ofNat o)), .val (.ref a1), .val (.ref a2), .val (.int (-1 : Int32)), s12] [])) t) ∨ (∃ (T' : State) (locs' : List Loc), Stand p l e room_1 s m args below meth c T' locs' 2 10 ∧ T'.heap = h0 ∧ Fr n0 locs' ∧ (3 < o ∨ own_mt f g n mm 3 = 0) ∧ ∀ t, Steps p.tables e below (T'.setTop (mkF m 333 #[s0, s1, s2, s3, s4, s5, s6, s7, .val (.int (Int32.ofNat o)), .val (.ref a1), .val (.ref a2), .val (.int (-1 : Int32)), s12] [])) t → Steps p.tables e below (T0.setTop (mkF m 310 #[s0, s1, s2, s3, s4, s5, s6, s7, .val (.int (Int32.ofNat o)), .val (.ref a1), .val (.ref a2), .val (.int (-1 : Int32)), s12] [])) t) := by
  have pre0 : ∀ t, Steps p.tables e below (T0.setTop (mkF m 310 #[s0, s1, s2, s3, s4, s5, s6, s7, .val (.int (Int32.ofNat o)), .val (.ref a1), .val (.ref a2), .val (.int (-1 : Int32)), s12] [])) t → Steps p.tables e below (T0.setTop (mkF m 310 #[s0, s1, s2, s3, s4, s5, s6, s7, .val (.int (Int32.ofNat o)), .val (.ref a1), .val (.ref a2), .val (.int (-1 : Int32)), s12] [])) t := fun t k => k
  have q234 : ∀ t, Steps p.tables e below (T0.setTop (mkF m 313 #[s0, s1, s2, s3, s4, s5, s6, s7, .val (.int (Int32.ofNat o)), .val (.ref a1), .val (.ref a2), .val (.int (-1 : Int32)), s12] [(.int (3 : Int32)), (.int (Int32.ofNat o))])) t → Steps p.tables e below (T0.setTop (mkF m 310 #[s0, s1, s2, s3, s4, s5, s6, s7, .val (.int (Int32.ofNat o)), .val (.ref a1), .val (.ref a2), .val (.int (-1 : Int32)), s12] [])) t := fun t k => pre0 t (by
      show Steps p.tables e below (T0.setTop (mkF m 310 #[s0, s1, s2, s3, s4, s5, s6, s7, .val (.int (Int32.ofNat o)), .val (.ref a1), .val (.ref a2), .val (.int (-1 : Int32)), s12] [])) _
      refine XS.iload X0.here hx rfl (hb hby at_310) rfl ?_
      show Steps p.tables e below (T0.setTop (mkF m 312 #[s0, s1, s2, s3, s4, s5, s6, s7, .val (.int (Int32.ofNat o)), .val (.ref a1), .val (.ref a2), .val (.int (-1 : Int32)), s12] [(.int (Int32.ofNat o))])) _
      refine XS.iconst X0.here hx rfl (hb hby at_312) ?_
      show Steps p.tables e below (T0.setTop (mkF m 313 #[s0, s1, s2, s3, s4, s5, s6, s7, .val (.int (Int32.ofNat o)), .val (.ref a1), .val (.ref a2), .val (.int (-1 : Int32)), s12] [(.int (3 : Int32)), (.int (Int32.ofNat o))])) _
      exact k)
  by_cases ko : (3 : Int32) < (Int32.ofNat o)
  · skip
    have q235 : ∀ t, Steps p.tables e below (T0.setTop (mkF m 333 #[s0, s1, s2, s3, s4, s5, s6, s7, .val (.int (Int32.ofNat o)), .val (.ref a1), .val (.ref a2), .val (.int (-1 : Int32)), s12] [])) t → Steps p.tables e below (T0.setTop (mkF m 310 #[s0, s1, s2, s3, s4, s5, s6, s7, .val (.int (Int32.ofNat o)), .val (.ref a1), .val (.ref a2), .val (.int (-1 : Int32)), s12] [])) t := fun t k => q234 t (by
        show Steps p.tables e below (T0.setTop (mkF m 313 #[s0, s1, s2, s3, s4, s5, s6, s7, .val (.int (Int32.ofNat o)), .val (.ref a1), .val (.ref a2), .val (.int (-1 : Int32)), s12] [(.int (3 : Int32)), (.int (Int32.ofNat o))])) _
        refine XS.icmpYes X0.here hx rfl (pc0 := 313) (pc' := 333) rfl (hb hby at_313) rfl (XT.ii_gt_t (ko : (3 : Int32) < (Int32.ofNat o))) (by decide) (by decide) ?_
        show Steps p.tables e below (T0.setTop (mkF m 333 #[s0, s1, s2, s3, s4, s5, s6, s7, .val (.int (Int32.ofNat o)), .val (.ref a1), .val (.ref a2), .val (.int (-1 : Int32)), s12] [])) _
        exact k)
    exact Or.inr ⟨_, _, X0, e0, N0, Or.inl ((own_ltn (i := 3) (by omega) (by omega)).mp ko), q235⟩
  · skip
    have ho' : o ≤ 3 := Nat.le_of_not_lt fun y => ko ((own_ltn (i := 3) (by omega) (by omega)).mpr y)
    have q236 : ∀ t, Steps p.tables e below (T0.setTop (mkF m 321 #[s0, s1, s2, s3, s4, s5, s6, s7, .val (.int (Int32.ofNat o)), .val (.ref a1), .val (.ref a2), .val (.int (-1 : Int32)), s12] [(.int (3 : Int32)), (.ref a2), (.ref a1)])) t → Steps p.tables e below (T0.setTop (mkF m 310 #[s0, s1, s2, s3, s4, s5, s6, s7, .val (.int (Int32.ofNat o)), .val (.ref a1), .val (.ref a2), .val (.int (-1 : Int32)), s12] [])) t := fun t k => q234 t (by
        show Steps p.tables e below (T0.setTop (mkF m 313 #[s0, s1, s2, s3, s4, s5, s6, s7, .val (.int (Int32.ofNat o)), .val (.ref a1), .val (.ref a2), .val (.int (-1 : Int32)), s12] [(.int (3 : Int32)), (.int (Int32.ofNat o))])) _
        refine XS.icmpNo X0.here hx rfl (hb hby at_313) rfl (XT.ii_gt_f (ko : ¬ ((3 : Int32) < (Int32.ofNat o)))) ?_
        show Steps p.tables e below (T0.setTop (mkF m 316 #[s0, s1, s2, s3, s4, s5, s6, s7, .val (.int (Int32.ofNat o)), .val (.ref a1), .val (.ref a2), .val (.int (-1 : Int32)), s12] [])) _
        refine XS.aload X0.here hx rfl (hb hby at_316) rfl rfl ?_
        show Steps p.tables e below (T0.setTop (mkF m 318 #[s0, s1, s2, s3, s4, s5, s6, s7, .val (.int (Int32.ofNat o)), .val (.ref a1), .val (.ref a2), .val (.int (-1 : Int32)), s12] [(.ref a1)])) _
        refine XS.aload X0.here hx rfl (hb hby at_318) rfl rfl ?_
        show Steps p.tables e below (T0.setTop (mkF m 320 #[s0, s1, s2, s3, s4, s5, s6, s7, .val (.int (Int32.ofNat o)), .val (.ref a1), .val (.ref a2), .val (.int (-1 : Int32)), s12] [(.ref a2), (.ref a1)])) _
        refine XS.iconst X0.here hx rfl (hb hby at_320) ?_
        show Steps p.tables e below (T0.setTop (mkF m 321 #[s0, s1, s2, s3, s4, s5, s6, s7, .val (.int (Int32.ofNat o)), .val (.ref a1), .val (.ref a2), .val (.int (-1 : Int32)), s12] [(.int (3 : Int32)), (.ref a2), (.ref a1)])) _
        exact k)
    obtain ⟨_, _, ⟨T237, L237, kk237, nn237⟩, -, X237, ⟨Lc237, hQ237, l237, y237, z237⟩, st237⟩ := Jvm.LawKit.callS X0 hx (y := (⟨"com/example/orbweaver/orbweaver/store/GzipMembersIndexOfPinLaw", "matchAt", "([B[BI)Z"⟩ : MethodName)) hown (mvT hZ (hw _ (List.mem_of_getElem? (i := 6) rfl))) (mvT hZ (hw _ (List.mem_of_getElem? (i := 7) rfl))) (mvT hZ (hw _ (List.mem_of_getElem? (i := 4) rfl))) (mvT hZ (hw _ (List.mem_of_getElem? (i := 8) rfl))) (by decide) (backOf (W := 0) (rm5 l Z a0 hw [] a1 a2 n mm 3 hn hm f g cl1 cl2 h0 n0 Z0 (by omega) Ar1 S1 H1 Ar2 S2 H2) hZ (hw _ (List.mem_of_getElem? (i := 8) rfl)) (hw _ (List.mem_of_getElem? (i := 4) rfl)) (by decide) (by decide)) (g := (mkF m 321 #[s0, s1, s2, s3, s4, s5, s6, s7, .val (.int (Int32.ofNat o)), .val (.ref a1), .val (.ref a2), .val (.int (-1 : Int32)), s12] [(.int (3 : Int32)), (.ref a2), (.ref a1)])) rfl (by rw [hml]; rfl) (argsL := [(.ref a1), (.ref a2), (.int (3 : Int32))]) (rest := []) (lenOf pd___B_BI_Z rfl) rfl (by show 2 * 0 + _ ≤ _; exact Nat.le_of_eq rfl) (hb hby at_321) (fun _ _ => ⟨rfl, e0, (by decide : 2 + 0 ≤ _), (by decide : 10 + 0 ≤ _)⟩)
    dsimp only [Pt.U, Pt.locs, Pt.cells, Pt.slots] at X237 l237 y237 z237 st237 hQ237
    subst l237 y237 z237
    obtain ⟨rfl, Nq237, e237⟩ := hQ237
    have N237 := Fr.app N0 Nq237
    have q238 : ∀ t, Steps p.tables e below (T237.setTop (mkF m 324 #[s0, s1, s2, s3, s4, s5, s6, s7, .val (.int (Int32.ofNat o)), .val (.ref a1), .val (.ref a2), .val (.int (-1 : Int32)), s12] [(.int (own_mt f g n mm 3))])) t → Steps p.tables e below (T0.setTop (mkF m 310 #[s0, s1, s2, s3, s4, s5, s6, s7, .val (.int (Int32.ofNat o)), .val (.ref a1), .val (.ref a2), .val (.int (-1 : Int32)), s12] [])) t := fun t k => q236 t (st237 t k)
    by_cases km : (own_mt f g n mm 3) = (0 : Int32)
    · skip
      have q239 : ∀ t, Steps p.tables e below (T237.setTop (mkF m 333 #[s0, s1, s2, s3, s4, s5, s6, s7, .val (.int (Int32.ofNat o)), .val (.ref a1), .val (.ref a2), .val (.int (-1 : Int32)), s12] [])) t → Steps p.tables e below (T0.setTop (mkF m 310 #[s0, s1, s2, s3, s4, s5, s6, s7, .val (.int (Int32.ofNat o)), .val (.ref a1), .val (.ref a2), .val (.int (-1 : Int32)), s12] [])) t := fun t k => q238 t (by
          show Steps p.tables e below (T237.setTop (mkF m 324 #[s0, s1, s2, s3, s4, s5, s6, s7, .val (.int (Int32.ofNat o)), .val (.ref a1), .val (.ref a2), .val (.int (-1 : Int32)), s12] [(.int (own_mt f g n mm 3))])) _
          refine XS.ifYes X237.here hx rfl (pc0 := 324) (pc' := 333) rfl (hb hby at_324) rfl (XT.i0_eq_t (km : (own_mt f g n mm 3) = (0 : Int32))) (by decide) (by decide) ?_
          show Steps p.tables e below (T237.setTop (mkF m 333 #[s0, s1, s2, s3, s4, s5, s6, s7, .val (.int (Int32.ofNat o)), .val (.ref a1), .val (.ref a2), .val (.int (-1 : Int32)), s12] [])) _
          exact k)
      exact Or.inr ⟨_, _, X237, e237, N237, Or.inr km, q239⟩
    · skip
      have q240 : ∀ t, Steps p.tables e below (T237.setTop (mkF m 428 #[s0, s1, s2, s3, s4, s5, s6, s7, .val (.int (Int32.ofNat o)), .val (.ref a1), .val (.ref a2), .val (.int (3 : Int32)), s12] [])) t → Steps p.tables e below (T0.setTop (mkF m 310 #[s0, s1, s2, s3, s4, s5, s6, s7, .val (.int (Int32.ofNat o)), .val (.ref a1), .val (.ref a2), .val (.int (-1 : Int32)), s12] [])) t := fun t k => q238 t (by
          show Steps p.tables e below (T237.setTop (mkF m 324 #[s0, s1, s2, s3, s4, s5, s6, s7, .val (.int (Int32.ofNat o)), .val (.ref a1), .val (.ref a2), .val (.int (-1 : Int32)), s12] [(.int (own_mt f g n mm 3))])) _
          refine XS.ifNo X237.here hx rfl (hb hby at_324) rfl (XT.i0_eq_f (km : ¬ ((own_mt f g n mm 3) = (0 : Int32)))) ?_
          show Steps p.tables e below (T237.setTop (mkF m 327 #[s0, s1, s2, s3, s4, s5, s6, s7, .val (.int (Int32.ofNat o)), .val (.ref a1), .val (.ref a2), .val (.int (-1 : Int32)), s12] [])) _
          refine XS.iconst X237.here hx rfl (hb hby at_327) ?_
          show Steps p.tables e below (T237.setTop (mkF m 328 #[s0, s1, s2, s3, s4, s5, s6, s7, .val (.int (Int32.ofNat o)), .val (.ref a1), .val (.ref a2), .val (.int (-1 : Int32)), s12] [(.int (3 : Int32))])) _
          refine XS.istore X237.here hx rfl (hb hby at_328) rfl (l' := #[s0, s1, s2, s3, s4, s5, s6, s7, .val (.int (Int32.ofNat o)), .val (.ref a1), .val (.ref a2), .val (.int (3 : Int32)), s12]) rfl ?_
          show Steps p.tables e below (T237.setTop (mkF m 330 #[s0, s1, s2, s3, s4, s5, s6, s7, .val (.int (Int32.ofNat o)), .val (.ref a1), .val (.ref a2), .val (.int (3 : Int32)), s12] [])) _
          refine XS.goto X237.here hx rfl (pc0 := 330) (pc' := 428) rfl (hb hby at_330) (by decide) (by decide) ?_
          show Steps p.tables e below (T237.setTop (mkF m 428 #[s0, s1, s2, s3, s4, s5, s6, s7, .val (.int (Int32.ofNat o)), .val (.ref a1), .val (.ref a2), .val (.int (3 : Int32)), s12] [])) _
          exact k)
      exact Or.inl ⟨_, _, X237, e237, N237, ho', km, q240⟩
set_option maxRecDepth 65536 in
set_option maxHeartbeats 40000000 in
theorem sm4 {p : Program} {l : Launch} {e : Env} {s : State} {m : MethodId} {args : Array Value} {below : List Frame} {meth : Method} {c : Code} {T0 : State} {locs : List Loc} {Z : State} {a0 : Array Value} {h0 : Heap} (s0 s1 s2 s3 s4 s5 s6 s7 s12 : Slot) (a1 a2 : Addr) (n mm o : Nat) (hn : n ≤ 7) (hm : mm ≤ 3) (ho : o ≤ 9) (f g : Nat → Int32) (cl1 cl2 : Cell) (n0 : Nat)
    (X0 : Stand p l e room_1 s m args below meth c T0 locs 2 10) (hx : p.tables.exec = Jvm.exec) (hZ : Z.Warmed39 s.vm) (hw : ∀ d ∈ tables_1, d.before a0 Z = true) (hby : c.code = code) (hml : c.maxLocals = 13) (hown : s.vm.findClass "com/example/orbweaver/orbweaver/store/GzipMembersIndexOfPinLaw" = some m.cls) (e0 : T0.heap = h0) (Z0 : n0 ≤ h0.size) (N0 : Fr n0 locs) (Ar1 : Arr Z h0 a1 cl1 .byte) (S1 : cl1.slots.size = n) (H1 : ∀ i, i < cl1.slots.size → cl1.slots[i]? = some (.int (f i))) (Ar2 : Arr Z h0 a2 cl2 .byte) (S2 : cl2.slots.size = mm) (H2 : ∀ i, i < cl2.slots.size → cl2.slots[i]? = some (.int (g i))) :
    (∃ (T' : State) (locs' : List Loc), Stand p l e room_1 s m args below meth c T' locs' 2 10 ∧ T'.heap = h0 ∧ Fr n0 locs' ∧ o ≤ 4 ∧ ¬ own_mt f g n mm 4 = 0 ∧ ∀ t, Steps p.tables e below (T'.setTop (mkF m 428 #[s0, s1, s2, s3, s4, s5, s6, s7, .val (.int (Int32.ofNat o)), .val (.ref a1), .val (.ref a2), .val (.int (4 : Int32)), s12] [])) t → Steps p.tables e below (T0.setTop (mkF m 333 #[s0, s1, s2, s3, s4, s5, s6, s7, .val (.int (Int32.ofNat o)), .val (.ref a1), .val (.ref a2), .val (.int (-1 : Int32)), s12] [])) t) ∨ (∃ (T' : State) (locs' : List Loc), Stand p l e room_1 s m args below meth c T' locs' 2 10 ∧ T'.heap = h0 ∧ Fr n0 locs' ∧ (4 < o ∨ own_mt f g n mm 4 = 0) ∧ ∀ t, Steps p.tables e below (T'.setTop (mkF m 356 #[s0, s1, s2, s3, s4, s5, s6, s7, .val (.int (Int32.ofNat o)), .val (.ref a1), .val (.ref a2), .val (.int (-1 : Int32)), s12] [])) t → Steps p.tables e below (T0.setTop (mkF m 333 #[s0, s1, s2, s3, s4, s5, s6, s7, .val (.int (Int32.ofNat o)), .val (.ref a1), .val (.ref a2), .val (.int (-1 : Int32)), s12] [])) t) := by
  have pre0 : ∀ t, Steps p.tables e below (T0.setTop (mkF m 333 #[s0, s1, s2, s3, s4, s5, s6, s7, .val (.int (Int32.ofNat o)), .val (.ref a1), .val (.ref a2), .val (.int (-1 : Int32)), s12] [])) t → Steps p.tables e below (T0.setTop (mkF m 333 #[s0, s1, s2, s3, s4, s5, s6, s7, .val (.int (Int32.ofNat o)), .val (.ref a1), .val (.ref a2), .val (.int (-1 : Int32)), s12] [])) t := fun t k => k
  have q241 : ∀ t, Steps p.tables e below (T0.setTop (mkF m 336 #[s0, s1, s2, s3, s4, s5, s6, s7, .val (.int (Int32.ofNat o)), .val (.ref a1), .val (.ref a2), .val (.int (-1 : Int32)), s12] [(.int (4 : Int32)), (.int (Int32.ofNat o))])) t → Steps p.tables e below (T0.setTop (mkF m 333 #[s0, s1, s2, s3, s4, s5, s6, s7, .val (.int (Int32.ofNat o)), .val (.ref a1), .val (.ref a2), .val (.int (-1 : Int32)), s12] [])) t := fun t k => pre0 t (by
      show Steps p.tables e below (T0.setTop (mkF m 333 #[s0, s1, s2, s3, s4, s5, s6, s7, .val (.int (Int32.ofNat o)), .val (.ref a1), .val (.ref a2), .val (.int (-1 : Int32)), s12] [])) _
      refine XS.iload X0.here hx rfl (hb hby at_333) rfl ?_
      show Steps p.tables e below (T0.setTop (mkF m 335 #[s0, s1, s2, s3, s4, s5, s6, s7, .val (.int (Int32.ofNat o)), .val (.ref a1), .val (.ref a2), .val (.int (-1 : Int32)), s12] [(.int (Int32.ofNat o))])) _
      refine XS.iconst X0.here hx rfl (hb hby at_335) ?_
      show Steps p.tables e below (T0.setTop (mkF m 336 #[s0, s1, s2, s3, s4, s5, s6, s7, .val (.int (Int32.ofNat o)), .val (.ref a1), .val (.ref a2), .val (.int (-1 : Int32)), s12] [(.int (4 : Int32)), (.int (Int32.ofNat o))])) _
      exact k)
  by_cases ko : (4 : Int32) < (Int32.ofNat o)
  · skip
    have q242 : ∀ t, Steps p.tables e below (T0.setTop (mkF m 356 #[s0, s1, s2, s3, s4, s5, s6, s7, .val (.int (Int32.ofNat o)), .val (.ref a1), .val (.ref a2), .val (.int (-1 : Int32)), s12] [])) t → Steps p.tables e below (T0.setTop (mkF m 333 #[s0, s1, s2, s3, s4, s5, s6, s7, .val (.int (Int32.ofNat o)), .val (.ref a1), .val (.ref a2), .val (.int (-1 : Int32)), s12] [])) t := fun t k => q241 t (by
        show Steps p.tables e below (T0.setTop (mkF m 336 #[s0, s1, s2, s3, s4, s5, s6, s7, .val (.int (Int32.ofNat o)), .val (.ref a1), .val (.ref a2), .val (.int (-1 : Int32)), s12] [(.int (4 : Int32)), (.int (Int32.ofNat o))])) _
        refine XS.icmpYes X0.here hx rfl (pc0 := 336) (pc' := 356) rfl (hb hby at_336) rfl (XT.ii_gt_t (ko : (4 : Int32) < (Int32.ofNat o))) (by decide) (by decide) ?_
        show Steps p.tables e below (T0.setTop (mkF m 356 #[s0, s1, s2, s3, s4, s5, s6, s7, .val (.int (Int32.ofNat o)), .val (.ref a1), .val (.ref a2), .val (.int (-1 : Int32)), s12] [])) _
        exact k)
    exact Or.inr ⟨_, _, X0, e0, N0, Or.inl ((own_ltn (i := 4) (by omega) (by omega)).mp ko), q242⟩
  · skip
    have ho' : o ≤ 4 := Nat.le_of_not_lt fun y => ko ((own_ltn (i := 4) (by omega) (by omega)).mpr y)
    have q243 : ∀ t, Steps p.tables e below (T0.setTop (mkF m 344 #[s0, s1, s2, s3, s4, s5, s6, s7, .val (.int (Int32.ofNat o)), .val (.ref a1), .val (.ref a2), .val (.int (-1 : Int32)), s12] [(.int (4 : Int32)), (.ref a2), (.ref a1)])) t → Steps p.tables e below (T0.setTop (mkF m 333 #[s0, s1, s2, s3, s4, s5, s6, s7, .val (.int (Int32.ofNat o)), .val (.ref a1), .val (.ref a2), .val (.int (-1 : Int32)), s12] [])) t := fun t k => q241 t (by
        show Steps p.tables e below (T0.setTop (mkF m 336 #[s0, s1, s2, s3, s4, s5, s6, s7, .val (.int (Int32.ofNat o)), .val (.ref a1), .val (.ref a2), .val (.int (-1 : Int32)), s12] [(.int (4 : Int32)), (.int (Int32.ofNat o))])) _
        refine XS.icmpNo X0.here hx rfl (hb hby at_336) rfl (XT.ii_gt_f (ko : ¬ ((4 : Int32) < (Int32.ofNat o)))) ?_
        show Steps p.tables e below (T0.setTop (mkF m 339 #[s0, s1, s2, s3, s4, s5, s6, s7, .val (.int (Int32.ofNat o)), .val (.ref a1), .val (.ref a2), .val (.int (-1 : Int32)), s12] [])) _
        refine XS.aload X0.here hx rfl (hb hby at_339) rfl rfl ?_
        show Steps p.tables e below (T0.setTop (mkF m 341 #[s0, s1, s2, s3, s4, s5, s6, s7, .val (.int (Int32.ofNat o)), .val (.ref a1), .val (.ref a2), .val (.int (-1 : Int32)), s12] [(.ref a1)])) _
        refine XS.aload X0.here hx rfl (hb hby at_341) rfl rfl ?_
        show Steps p.tables e below (T0.setTop (mkF m 343 #[s0, s1, s2, s3, s4, s5, s6, s7, .val (.int (Int32.ofNat o)), .val (.ref a1), .val (.ref a2), .val (.int (-1 : Int32)), s12] [(.ref a2), (.ref a1)])) _
        refine XS.iconst X0.here hx rfl (hb hby at_343) ?_
        show Steps p.tables e below (T0.setTop (mkF m 344 #[s0, s1, s2, s3, s4, s5, s6, s7, .val (.int (Int32.ofNat o)), .val (.ref a1), .val (.ref a2), .val (.int (-1 : Int32)), s12] [(.int (4 : Int32)), (.ref a2), (.ref a1)])) _
        exact k)
    obtain ⟨_, _, ⟨T244, L244, kk244, nn244⟩, -, X244, ⟨Lc244, hQ244, l244, y244, z244⟩, st244⟩ := Jvm.LawKit.callS X0 hx (y := (⟨"com/example/orbweaver/orbweaver/store/GzipMembersIndexOfPinLaw", "matchAt", "([B[BI)Z"⟩ : MethodName)) hown (mvT hZ (hw _ (List.mem_of_getElem? (i := 6) rfl))) (mvT hZ (hw _ (List.mem_of_getElem? (i := 7) rfl))) (mvT hZ (hw _ (List.mem_of_getElem? (i := 4) rfl))) (mvT hZ (hw _ (List.mem_of_getElem? (i := 8) rfl))) (by decide) (backOf (W := 0) (rm5 l Z a0 hw [] a1 a2 n mm 4 hn hm f g cl1 cl2 h0 n0 Z0 (by omega) Ar1 S1 H1 Ar2 S2 H2) hZ (hw _ (List.mem_of_getElem? (i := 8) rfl)) (hw _ (List.mem_of_getElem? (i := 4) rfl)) (by decide) (by decide)) (g := (mkF m 344 #[s0, s1, s2, s3, s4, s5, s6, s7, .val (.int (Int32.ofNat o)), .val (.ref a1), .val (.ref a2), .val (.int (-1 : Int32)), s12] [(.int (4 : Int32)), (.ref a2), (.ref a1)])) rfl (by rw [hml]; rfl) (argsL := [(.ref a1), (.ref a2), (.int (4 : Int32))]) (rest := []) (lenOf pd___B_BI_Z rfl) rfl (by show 2 * 0 + _ ≤ _; exact Nat.le_of_eq rfl) (hb hby at_344) (fun _ _ => ⟨rfl, e0, (by decide : 2 + 0 ≤ _), (by decide : 10 + 0 ≤ _)⟩)
    dsimp only [Pt.U, Pt.locs, Pt.cells, Pt.slots] at X244 l244 y244 z244 st244 hQ244
    subst l244 y244 z244
    obtain ⟨rfl, Nq244, e244⟩ := hQ244
    have N244 := Fr.app N0 Nq244
    have q245 : ∀ t, Steps p.tables e below (T244.setTop (mkF m 347 #[s0, s1, s2, s3, s4, s5, s6, s7, .val (.int (Int32.ofNat o)), .val (.ref a1), .val (.ref a2), .val (.int (-1 : Int32)), s12] [(.int (own_mt f g n mm 4))])) t → Steps p.tables e below (T0.setTop (mkF m 333 #[s0, s1, s2, s3, s4, s5, s6, s7, .val (.int (Int32.ofNat o)), .val (.ref a1), .val (.ref a2), .val (.int (-1 : Int32)), s12] [])) t := fun t k => q243 t (st244 t k)
    by_cases km : (own_mt f g n mm 4) = (0 : Int32)
    · skip
      have q246 : ∀ t, Steps p.tables e below (T244.setTop (mkF m 356 #[s0, s1, s2, s3, s4, s5, s6, s7, .val (.int (Int32.ofNat o)), .val (.ref a1), .val (.ref a2), .val (.int (-1 : Int32)), s12] [])) t → Steps p.tables e below (T0.setTop (mkF m 333 #[s0, s1, s2, s3, s4, s5, s6, s7, .val (.int (Int32.ofNat o)), .val (.ref a1), .val (.ref a2), .val (.int (-1 : Int32)), s12] [])) t := fun t k => q245 t (by
          show Steps p.tables e below (T244.setTop (mkF m 347 #[s0, s1, s2, s3, s4, s5, s6, s7, .val (.int (Int32.ofNat o)), .val (.ref a1), .val (.ref a2), .val (.int (-1 : Int32)), s12] [(.int (own_mt f g n mm 4))])) _
          refine XS.ifYes X244.here hx rfl (pc0 := 347) (pc' := 356) rfl (hb hby at_347) rfl (XT.i0_eq_t (km : (own_mt f g n mm 4) = (0 : Int32))) (by decide) (by decide) ?_
          show Steps p.tables e below (T244.setTop (mkF m 356 #[s0, s1, s2, s3, s4, s5, s6, s7, .val (.int (Int32.ofNat o)), .val (.ref a1), .val (.ref a2), .val (.int (-1 : Int32)), s12] [])) _
          exact k)
      exact Or.inr ⟨_, _, X244, e244, N244, Or.inr km, q246⟩
    · skip
      have q247 : ∀ t, Steps p.tables e below (T244.setTop (mkF m 428 #[s0, s1, s2, s3, s4, s5, s6, s7, .val (.int (Int32.ofNat o)), .val (.ref a1), .val (.ref a2), .val (.int (4 : Int32)), s12] [])) t → Steps p.tables e below (T0.setTop (mkF m 333 #[s0, s1, s2, s3, s4, s5, s6, s7, .val (.int (Int32.ofNat o)), .val (.ref a1), .val (.ref a2), .val (.int (-1 : Int32)), s12] [])) t := fun t k => q245 t (by
          show Steps p.tables e below (T244.setTop (mkF m 347 #[s0, s1, s2, s3, s4, s5, s6, s7, .val (.int (Int32.ofNat o)), .val (.ref a1), .val (.ref a2), .val (.int (-1 : Int32)), s12] [(.int (own_mt f g n mm 4))])) _
          refine XS.ifNo X244.here hx rfl (hb hby at_347) rfl (XT.i0_eq_f (km : ¬ ((own_mt f g n mm 4) = (0 : Int32)))) ?_
          show Steps p.tables e below (T244.setTop (mkF m 350 #[s0, s1, s2, s3, s4, s5, s6, s7, .val (.int (Int32.ofNat o)), .val (.ref a1), .val (.ref a2), .val (.int (-1 : Int32)), s12] [])) _
          refine XS.iconst X244.here hx rfl (hb hby at_350) ?_
          show Steps p.tables e below (T244.setTop (mkF m 351 #[s0, s1, s2, s3, s4, s5, s6, s7, .val (.int (Int32.ofNat o)), .val (.ref a1), .val (.ref a2), .val (.int (-1 : Int32)), s12] [(.int (4 : Int32))])) _
          refine XS.istore X244.here hx rfl (hb hby at_351) rfl (l' := #[s0, s1, s2, s3, s4, s5, s6, s7, .val (.int (Int32.ofNat o)), .val (.ref a1), .val (.ref a2), .val (.int (4 : Int32)), s12]) rfl ?_
          show Steps p.tables e below (T244.setTop (mkF m 353 #[s0, s1, s2, s3, s4, s5, s6, s7, .val (.int (Int32.ofNat o)), .val (.ref a1), .val (.ref a2), .val (.int (4 : Int32)), s12] [])) _
          refine XS.goto X244.here hx rfl (pc0 := 353) (pc' := 428) rfl (hb hby at_353) (by decide) (by decide) ?_
          show Steps p.tables e below (T244.setTop (mkF m 428 #[s0, s1, s2, s3, s4, s5, s6, s7, .val (.int (Int32.ofNat o)), .val (.ref a1), .val (.ref a2), .val (.int (4 : Int32)), s12] [])) _
          exact k)
      exact Or.inl ⟨_, _, X244, e244, N244, ho', km, q247⟩
set_option maxRecDepth 65536 in
set_option maxHeartbeats 40000000 in
theorem sm5 {p : Program} {l : Launch} {e : Env} {s : State} {m : MethodId} {args : Array Value} {below : List Frame} {meth : Method} {c : Code} {T0 : State} {locs : List Loc} {Z : State} {a0 : Array Value} {h0 : Heap} (s0 s1 s2 s3 s4 s5 s6 s7 s12 : Slot) (a1 a2 : Addr) (n mm o : Nat) (hn : n ≤ 7) (hm : mm ≤ 3) (ho : o ≤ 9) (f g : Nat → Int32) (cl1 cl2 : Cell) (n0 : Nat)
    (X0 : Stand p l e room_1 s m args below meth c T0 locs 2 10) (hx : p.tables.exec = Jvm.exec) (hZ : Z.Warmed39 s.vm) (hw : ∀ d ∈ tables_1, d.before a0 Z = true) (hby : c.code = code) (hml : c.maxLocals = 13) (hown : s.vm.findClass "com/example/orbweaver/orbweaver/store/GzipMembersIndexOfPinLaw" = some m.cls) (e0 : T0.heap = h0) (Z0 : n0 ≤ h0.size) (N0 : Fr n0 locs) (Ar1 : Arr Z h0 a1 cl1 .byte) (S1 : cl1.slots.size = n) (H1 : ∀ i, i < cl1.slots.size → cl1.slots[i]? = some (.int (f i))) (Ar2 : Arr Z h0 a2 cl2 .byte) (S2 : cl2.slots.size = mm) (H2 : ∀ i, i < cl2.slots.size → cl2.slots[i]? = some (.int (g i))) :
    (∃ (T' : State) (locs' : List Loc), Stand p l e room_1 s m args below meth c T' locs' 2 10 ∧ T'.heap = h0 ∧ Fr n0 locs' ∧ o ≤ 5 ∧ ¬ own_mt f g n mm 5 = 0 ∧ ∀ t, Steps p.tables e below (T'.setTop (mkF m 428 #[s0, s1, s2, s3, s4, s5, s6, s7, .val (.int (Int32.ofNat o)), .val (.ref a1), .val (.ref a2), .val (.int (5 : Int32)), s12] [])) t → Steps p.tables e below (T0.setTop (mkF m 356 #[s0, s1, s2, s3, s4, s5, s6, s7, .val (.int (Int32.ofNat o)), .val (.ref a1), .val (.ref a2), .val (.int (-1 : Int32)), s12] [])) t) ∨ (∃ (T' : State) (locs' : List Loc), Stand p l e room_1 s m args below meth c T' locs' 2 10 ∧ T'.heap = h0 ∧ Fr n0 locs' ∧ (5 < o ∨ own_mt f g n mm 5 = 0) ∧ ∀ t, Steps p.tables e below (T'.setTop (mkF m 379 #[s0, s1, s2, s3, s4, s5, s6, s7, .val (.int (Int32.ofNat o)), .val (.ref a1), .val (.ref a2), .val (.int (-1 : Int32)), s12] [])) t → Steps p.tables e below (T0.setTop (mkF m 356 #[s0, s1, s2, s3, s4, s5, s6, s7, .val (.int (Int32.ofNat o)), .val (.ref a1), .val (.ref a2), .val (.int (-1 : Int32)), s12] [])) t) := by
  have pre0 : ∀ t, Steps p.tables e below (T0.setTop (mkF m 356 #[s0, s1, s2, s3, s4, s5, s6, s7, .val (.int (Int32.ofNat o)), .val (.ref a1), .val (.ref a2), .val (.int (-1 : Int32)), s12] [])) t → Steps p.tables e below (T0.setTop (mkF m 356 #[s0, s1, s2, s3, s4, s5, s6, s7, .val (.int (Int32.ofNat o)), .val (.ref a1), .val (.ref a2), .val (.int (-1 : Int32)), s12] [])) t := fun t k => k
  have q248 : ∀ t, Steps p.tables e below (T0.setTop (mkF m 359 #[s0, s1, s2, s3, s4, s5, s6, s7, .val (.int (Int32.ofNat o)), .val (.ref a1), .val (.ref a2), .val (.int (-1 : Int32)), s12] [(.int (5 : Int32)), (.int (Int32.ofNat o))])) t → Steps p.tables e below (T0.setTop (mkF m 356 #[s0, s1, s2, s3, s4, s5, s6, s7, .val (.int (Int32.ofNat o)), .val (.ref a1), .val (.ref a2), .val (.int (-1 : Int32)), s12] [])) t := fun t k => pre0 t (by
      show Steps p.tables e below (T0.setTop (mkF m 356 #[s0, s1, s2, s3, s4, s5, s6, s7, .val (.int (Int32.ofNat o)), .val (.ref a1), .val (.ref a2), .val (.int (-1 : Int32)), s12] [])) _
      refine XS.iload X0.here hx rfl (hb hby at_356) rfl ?_
      show Steps p.tables e below (T0.setTop (mkF m 358 #[s0, s1, s2, s3, s4, s5, s6, s7, .val (.int (Int32.ofNat o)), .val (.ref a1), .val (.ref a2), .val (.int (-1 : Int32)), s12] [(.int (Int32.ofNat o))])) _
      refine XS.iconst X0.here hx rfl (hb hby at_358) ?_
      show Steps p.tables e below (T0.setTop (mkF m 359 #[s0, s1, s2, s3, s4, s5, s6, s7, .val (.int (Int32.ofNat o)), .val (.ref a1), .val (.ref a2), .val (.int (-1 : Int32)), s12] [(.int (5 : Int32)), (.int (Int32.ofNat o))])) _
      exact k)
  by_cases ko : (5 : Int32) < (Int32.ofNat o)
  · skip
    have q249 : ∀ t, Steps p.tables e below (T0.setTop (mkF m 379 #[s0, s1, s2, s3, s4, s5, s6, s7, .val (.int (Int32.ofNat o)), .val (.ref a1), .val (.ref a2), .val (.int (-1 : Int32)), s12] [])) t → Steps p.tables e below (T0.setTop (mkF m 356 #[s0, s1, s2, s3, s4, s5, s6, s7, .val (.int (Int32.ofNat o)), .val (.ref a1), .val (.ref a2), .val (.int (-1 : Int32)), s12] [])) t := fun t k => q248 t (by
        show Steps p.tables e below (T0.setTop (mkF m 359 #[s0, s1, s2, s3, s4, s5, s6, s7, .val (.int (Int32.ofNat o)), .val (.ref a1), .val (.ref a2), .val (.int (-1 : Int32)), s12] [(.int (5 : Int32)), (.int (Int32.ofNat o))])) _
        refine XS.icmpYes X0.here hx rfl (pc0 := 359) (pc' := 379) rfl (hb hby at_359) rfl (XT.ii_gt_t (ko : (5 : Int32) < (Int32.ofNat o))) (by decide) (by decide) ?_
        show Steps p.tables e below (T0.setTop (mkF m 379 #[s0, s1, s2, s3, s4, s5, s6, s7, .val (.int (Int32.ofNat o)), .val (.ref a1), .val (.ref a2), .val (.int (-1 : Int32)), s12] [])) _
        exact k)
    exact Or.inr ⟨_, _, X0, e0, N0, Or.inl ((own_ltn (i := 5) (by omega) (by omega)).mp ko), q249⟩
  · skip
    have ho' : o ≤ 5 := Nat.le_of_not_lt fun y => ko ((own_ltn (i := 5) (by omega) (by omega)).mpr y)
    have q250 : ∀ t, Steps p.tables e below (T0.setTop (mkF m 367 #[s0, s1, s2, s3, s4, s5, s6, s7, .val (.int (Int32.ofNat o)), .val (.ref a1), .val (.ref a2), .val (.int (-1 : Int32)), s12] [(.int (5 : Int32)), (.ref a2), (.ref a1)])) t → Steps p.tables e below (T0.setTop (mkF m 356 #[s0, s1, s2, s3, s4, s5, s6, s7, .val (.int (Int32.ofNat o)), .val (.ref a1), .val (.ref a2), .val (.int (-1 : Int32)), s12] [])) t := fun t k => q248 t (by
        show Steps p.tables e below (T0.setTop (mkF m 359 #[s0, s1, s2, s3, s4, s5, s6, s7, .val (.int (Int32.ofNat o)), .val (.ref a1), .val (.ref a2), .val (.int (-1 : Int32)), s12] [(.int (5 : Int32)), (.int (Int32.ofNat o))])) _
        refine XS.icmpNo X0.here hx rfl (hb hby at_359) rfl (XT.ii_gt_f (ko : ¬ ((5 : Int32) < (Int32.ofNat o)))) ?_
        show Steps p.tables e below (T0.setTop (mkF m 362 #[s0, s1, s2, s3, s4, s5, s6, s7, .val (.int (Int32.ofNat o)), .val (.ref a1), .val (.ref a2), .val (.int (-1 : Int32)), s12] [])) _
        refine XS.aload X0.here hx rfl (hb hby at_362) rfl rfl ?_
        show Steps p.tables e below (T0.setTop (mkF m 364 #[s0, s1, s2, s3, s4, s5, s6, s7, .val (.int (Int32.ofNat o)), .val (.ref a1), .val (.ref a2), .val (.int (-1 : Int32)), s12] [(.ref a1)])) _
        refine XS.aload X0.here hx rfl (hb hby at_364) rfl rfl ?_
        show Steps p.tables e below (T0.setTop (mkF m 366 #[s0, s1, s2, s3, s4, s5, s6, s7, .val (.int (Int32.ofNat o)), .val (.ref a1), .val (.ref a2), .val (.int (-1 : Int32)), s12] [(.ref a2), (.ref a1)])) _
        refine XS.iconst X0.here hx rfl (hb hby at_366) ?_
        show Steps p.tables e below (T0.setTop (mkF m 367 #[s0, s1, s2, s3, s4, s5, s6, s7, .val (.int (Int32.ofNat o)), .val (.ref a1), .val (.ref a2), .val (.int (-1 : Int32)), s12] [(.int (5 : Int32)), (.ref a2), (.ref a1)])) _
        exact k)
    obtain ⟨_, _, ⟨T251, L251, kk251, nn251⟩, -, X251, ⟨Lc251, hQ251, l251, y251, z251⟩, st251⟩ := Jvm.LawKit.callS X0 hx (y := (⟨"com/example/orbweaver/orbweaver/store/GzipMembersIndexOfPinLaw", "matchAt", "([B[BI)Z"⟩ : MethodName)) hown (mvT hZ (hw _ (List.mem_of_getElem? (i := 6) rfl))) (mvT hZ (hw _ (List.mem_of_getElem? (i := 7) rfl))) (mvT hZ (hw _ (List.mem_of_getElem? (i := 4) rfl))) (mvT hZ (hw _ (List.mem_of_getElem? (i := 8) rfl))) (by decide) (backOf (W := 0) (rm5 l Z a0 hw [] a1 a2 n mm 5 hn hm f g cl1 cl2 h0 n0 Z0 (by omega) Ar1 S1 H1 Ar2 S2 H2) hZ (hw _ (List.mem_of_getElem? (i := 8) rfl)) (hw _ (List.mem_of_getElem? (i := 4) rfl)) (by decide) (by decide)) (g := (mkF m 367 #[s0, s1, s2, s3, s4, s5, s6, s7, .val (.int (Int32.ofNat o)), .val (.ref a1), .val (.ref a2), .val (.int (-1 : Int32)), s12] [(.int (5 : Int32)), (.ref a2), (.ref a1)])) rfl (by rw [hml]; rfl) (argsL := [(.ref a1), (.ref a2), (.int (5 : Int32))]) (rest := []) (lenOf pd___B_BI_Z rfl) rfl (by show 2 * 0 + _ ≤ _; exact Nat.le_of_eq rfl) (hb hby at_367) (fun _ _ => ⟨rfl, e0, (by decide : 2 + 0 ≤ _), (by decide : 10 + 0 ≤ _)⟩)
    dsimp only [Pt.U, Pt.locs, Pt.cells, Pt.slots] at X251 l251 y251 z251 st251 hQ251
    subst l251 y251 z251
    obtain ⟨rfl, Nq251, e251⟩ := hQ251
    have N251 := Fr.app N0 Nq251
    have q252 : ∀ t, Steps p.tables e below (T251.setTop (mkF m 370 #[s0, s1, s2, s3, s4, s5, s6, s7, .val (.int (Int32.ofNat o)), .val (.ref a1), .val (.ref a2), .val (.int (-1 : Int32)), s12] [(.int (own_mt f g n mm 5))])) t → Steps p.tables e below (T0.setTop (mkF m 356 #[s0, s1, s2, s3, s4, s5, s6, s7, .val (.int (Int32.ofNat o)), .val (.ref a1), .val (.ref a2), .val (.int (-1 : Int32)), s12] [])) t := fun t k => q250 t (st251 t k)
    by_cases km : (own_mt f g n mm 5) = (0 : Int32)
    · skip
      have q253 : ∀ t, Steps p.tables e below (T251.setTop (mkF m 379 #[s0, s1, s2, s3, s4, s5, s6, s7, .val (.int (Int32.ofNat o)), .val (.ref a1), .val (.ref a2), .val (.int (-1 : Int32)), s12] [])) t → Steps p.tables e below (T0.setTop (mkF m 356 #[s0, s1, s2, s3, s4, s5, s6, s7, .val (.int (Int32.ofNat o)), .val (.ref a1), .val (.ref a2), .val (.int (-1 : Int32)), s12] [])) t := fun t k => q252 t (by
          show Steps p.tables e below (T251.setTop (mkF m 370 #[s0, s1, s2, s3, s4, s5, s6, s7, .val (.int (Int32.ofNat o)), .val (.ref a1), .val (.ref a2), .val (.int (-1 : Int32)), s12] [(.int (own_mt f g n mm 5))])) _
          refine XS.ifYes X251.here hx rfl (pc0 := 370) (pc' := 379) rfl (hb hby at_370) rfl (XT.i0_eq_t (km : (own_mt f g n mm 5) = (0 : Int32))) (by decide) (by decide) ?_
          show Steps p.tables e below (T251.setTop (mkF m 379 #[s0, s1, s2, s3, s4, s5, s6, s7, .val (.int (Int32.ofNat o)), .val (.ref a1), .val (.ref a2), .val (.int (-1 : Int32)), s12] [])) _
          exact k)
      exact Or.inr ⟨_, _, X251, e251, N251, Or.inr km, q253⟩
    · skip
      have q254 : ∀ t, Steps p.tables e below (T251.setTop (mkF m 428 #[s0, s1, s2, s3, s4, s5, s6, s7, .val (.int (Int32.ofNat o)), .val (.ref a1), .val (.ref a2), .val (.int (5 : Int32)), s12] [])) t → Steps p.tables e below (T0.setTop (mkF m 356 #[s0, s1, s2, s3, s4, s5, s6, s7, .val (.int (Int32.ofNat o)), .val (.ref a1), .val (.ref a2), .val (.int (-1 : Int32)), s12] [])) t := fun t k => q252 t (by
          show Steps p.tables e below (T251.setTop (mkF m 370 #[s0, s1, s2, s3, s4, s5, s6, s7, .val (.int (Int32.ofNat o)), .val (.ref a1), .val (.ref a2), .val (.int (-1 : Int32)), s12] [(.int (own_mt f g n mm 5))])) _
          refine XS.ifNo X251.here hx rfl (hb hby at_370) rfl (XT.i0_eq_f (km : ¬ ((own_mt f g n mm 5) = (0 : Int32)))) ?_
          show Steps p.tables e below (T251.setTop (mkF m 373 #[s0, s1, s2, s3, s4, s5, s6, s7, .val (.int (Int32.ofNat o)), .val (.ref a1), .val (.ref a2), .val (.int (-1 : Int32)), s12] [])) _
          refine XS.iconst X251.here hx rfl (hb hby at_373) ?_
          show Steps p.tables e below (T251.setTop (mkF m 374 #[s0, s1, s2, s3, s4, s5, s6, s7, .val (.int (Int32.ofNat o)), .val (.ref a1), .val (.ref a2), .val (.int (-1 : Int32)), s12] [(.int (5 : Int32))])) _
          refine XS.istore X251.here hx rfl (hb hby at_374) rfl (l' := #[s0, s1, s2, s3, s4, s5, s6, s7, .val (.int (Int32.ofNat o)), .val (.ref a1), .val (.ref a2), .val (.int (5 : Int32)), s12]) rfl ?_
          show Steps p.tables e below (T251.setTop (mkF m 376 #[s0, s1, s2, s3, s4, s5, s6, s7, .val (.int (Int32.ofNat o)), .val (.ref a1), .val (.ref a2), .val (.int (5 : Int32)), s12] [])) _
          refine XS.goto X251.here hx rfl (pc0 := 376) (pc' := 428) rfl (hb hby at_376) (by decide) (by decide) ?_
          show Steps p.tables e below (T251.setTop (mkF m 428 #[s0, s1, s2, s3, s4, s5, s6, s7, .val (.int (Int32.ofNat o)), .val (.ref a1), .val (.ref a2), .val (.int (5 : Int32)), s12] [])) _
          exact k)
      exact Or.inl ⟨_, _, X251, e251, N251, ho', km, q254⟩
set_option maxRecDepth 65536 in
set_option maxHeartbeats 40000000 in
theorem sm6 {p : Program} {l : Launch} {e : Env} {s : State} {m : MethodId} {args : Array Value} {below : List Frame} {meth : Method} {c : Code} {T0 : State} {locs : List Loc} {Z : State} {a0 : Array Value} {h0 : Heap} (s0 s1 s2 s3 s4 s5 s6 s7 s12 : Slot) (a1 a2 : Addr) (n mm o : Nat) (hn : n ≤ 7) (hm : mm ≤ 3) (ho : o ≤ 9) (f g : Nat → Int32) (cl1 cl2 : Cell) (n0 : Nat)
    (X0 : Stand p l e room_1 s m args below meth c T0 locs 2 10) (hx : p.tables.exec = Jvm.exec) (hZ : Z.Warmed39 s.vm) (hw : ∀ d ∈ tables_1, d.before a0 Z = true) (hby : c.code = code) (hml : c.maxLocals = 13) (hown : s.vm.findClass "com/example/orbweaver/orbweaver/store/GzipMembersIndexOfPinLaw" = some m.cls) (e0 : T0.heap = h0) (Z0 : n0 ≤ h0.size) (N0 : Fr n0 locs) (Ar1 : Arr Z h0 a1 cl1 .byte) (S1 : cl1.slots.size = n) (H1 : ∀ i, i < cl1.slots.size → cl1.slots[i]? = some (.int (f i))) (Ar2 : Arr Z h0 a2 cl2 .byte) (S2 : cl2.slots.size = mm) (H2 : ∀ i, i < cl2.slots.size → cl2.slots[i]? = some (.int (g i))) :
    (∃ (T' : State) (locs' : List Loc), Stand p l e room_1 s m args below meth c T' locs' 2 10 ∧ T'.heap = h0 ∧ Fr n0 locs' ∧ o ≤ 6 ∧ ¬ own_mt f g n mm 6 = 0 ∧ ∀ t, Steps p.tables e below (T'.setTop (mkF m 428 #[s0, s1, s2, s3, s4, s5, s6, s7, .val (.int (Int32.ofNat o)), .val (.ref a1), .val (.ref a2), .val (.int (6 : Int32)), s12] [])) t → Steps p.tables e below (T0.setTop (mkF m 379 #[s0, s1, s2, s3, s4, s5, s6, s7, .val (.int (Int32.ofNat o)), .val (.ref a1), .val (.ref a2), .val (.int (-1 : Int32)), s12] [])) t) ∨ (∃ (T' : State) (locs' : List Loc), Stand p l e room_1 s m args below meth c T' locs' 2 10 ∧ T'.heap = h0 ∧ Fr n0 locs' ∧ (6 < o ∨ own_mt f g n mm 6 = 0) ∧ ∀ t, Steps p.tables e below (T'.setTop (mkF m 405 #[s0, s1, s2, s3, s4, s5, s6, s7, .val (.int (Int32.ofNat o)), .val (.ref a1), .val (.ref a2), .val (.int (-1 : Int32)), s12] [])) t → Steps p.tables e below (T0.setTop (mkF m 379 #[s0, s1, s2, s3, s4, s5, s6, s7, .val (.int (Int32.ofNat o)), .val (.ref a1), .val (.ref a2), .val (.int (-1 : Int32)), s12] [])) t) := by
  have pre0 : ∀ t, Steps p.tables e below (T0.setTop (mkF m 379 #[s0, s1, s2, s3, s4, s5, s6, s7, .val (.int (Int32.ofNat o)), .val (.ref a1), .val (.ref a2), .val (.int (-1 : Int32)), s12] [])) t → Steps p.tables e below (T0.setTop (mkF m 379 #[s0, s1, s2, s3, s4, s5, s6, s7, .val (.int (Int32.ofNat o)), .val (.ref a1), .val (.ref a2), .val (.int (-1 : Int32)), s12] [])) t := fun t k => k
  have q255 : ∀ t, Steps p.tables e below (T0.setTop (mkF m 383 #[s0, s1, s2, s3, s4, s5, s6, s7, .val (.int (Int32.ofNat o)), .val (.ref a1), .val (.ref a2), .val (.int (-1 : Int32)), s12] [(.int (6 : Int32)), (.int (Int32.ofNat o))])) t → Steps p.tables e below (T0.setTop (mkF m 379 #[s0, s1, s2, s3, s4, s5, s6, s7, .val (.int (Int32.ofNat o)), .val (.ref a1), .val (.ref a2), .val (.int (-1 : Int32)), s12] [])) t := fun t k => pre0 t (by
      show Steps p.tables e below (T0.setTop (mkF m 379 #[s0, s1, s2, s3, s4, s5, s6, s7, .val (.int (Int32.ofNat o)), .val (.ref a1), .val (.ref a2), .val (.int (-1 : Int32)), s12] [])) _
      refine XS.iload X0.here hx rfl (hb hby at_379) rfl ?_
      show Steps p.tables e below (T0.setTop (mkF m 381 #[s0, s1, s2, s3, s4, s5, s6, s7, .val (.int (Int32.ofNat o)), .val (.ref a1), .val (.ref a2), .val (.int (-1 : Int32)), s12] [(.int (Int32.ofNat o))])) _
      refine XS.bipush X0.here hx rfl (hb hby at_381) ?_
      show Steps p.tables e below (T0.setTop (mkF m 383 #[s0, s1, s2, s3, s4, s5, s6, s7, .val (.int (Int32.ofNat o)), .val (.ref a1), .val (.ref a2), .val (.int (-1 : Int32)), s12] [(.int (6 : Int32)), (.int (Int32.ofNat o))])) _
      exact k)
  by_cases ko : (6 : Int32) < (Int32.ofNat o)
  · skip
    have q256 : ∀ t, Steps p.tables e below (T0.setTop (mkF m 405 #[s0, s1, s2, s3, s4, s5, s6, s7, .val (.int (Int32.ofNat o)), .val (.ref a1), .val (.ref a2), .val (.int (-1 : Int32)), s12] [])) t → Steps p.tables e below (T0.setTop (mkF m 379 #[s0, s1, s2, s3, s4, s5, s6, s7, .val (.int (Int32.ofNat o)), .val (.ref a1), .val (.ref a2), .val (.int (-1 : Int32)), s12] [])) t := fun t k => q255 t (by
        show Steps p.tables e below (T0.setTop (mkF m 383 #[s0, s1, s2, s3, s4, s5, s6, s7, .val (.int (Int32.ofNat o)), .val (.ref a1), .val (.ref a2), .val (.int (-1 : Int32)), s12] [(.int (6 : Int32)), (.int (Int32.ofNat o))])) _
        refine XS.icmpYes X0.here hx rfl (pc0 := 383) (pc' := 405) rfl (hb hby at_383) rfl (XT.ii_gt_t (ko : (6 : Int32) < (Int32.ofNat o))) (by decide) (by decide) ?_
        show Steps p.tables e below (T0.setTop (mkF m 405 #[s0, s1, s2, s3, s4, s5, s6, s7, .val (.int (Int32.ofNat o)), .val (.ref a1), .val (.ref a2), .val (.int (-1 : Int32)), s12] [])) _
        exact k)
    exact Or.inr ⟨_, _, X0, e0, N0, Or.inl ((own_ltn (i := 6) (by omega) (by omega)).mp ko), q256⟩
  · skip
    have ho' : o ≤ 6 := Nat.le_of_not_lt fun y => ko ((own_ltn (i := 6) (by omega) (by omega)).mpr y)
    have q257 : ∀ t, Steps p.tables e below (T0.setTop (mkF m 392 #[s0, s1, s2, s3, s4, s5, s6, s7, .val (.int (Int32.ofNat o)), .val (.ref a1), .val (.ref a2), .val (.int (-1 : Int32)), s12] [(.int (6 : Int32)), (.ref a2), (.ref a1)])) t → Steps p.tables e below (T0.setTop (mkF m 379 #[s0, s1, s2, s3, s4, s5, s6, s7, .val (.int (Int32.ofNat o)), .val (.ref a1), .val (.ref a2), .val (.int (-1 : Int32)), s12] [])) t := fun t k => q255 t (by
        show Steps p.tables e below (T0.setTop (mkF m 383 #[s0, s1, s2, s3, s4, s5, s6, s7, .val (.int (Int32.ofNat o)), .val (.ref a1), .val (.ref a2), .val (.int (-1 : Int32)), s12] [(.int (6 : Int32)), (.int (Int32.ofNat o))])) _
        refine XS.icmpNo X0.here hx rfl (hb hby at_383) rfl (XT.ii_gt_f (ko : ¬ ((6 : Int32) < (Int32.ofNat o)))) ?_
        show Steps p.tables e below (T0.setTop (mkF m 386 #[s0, s1, s2, s3, s4, s5, s6, s7, .val (.int (Int32.ofNat o)), .val (.ref a1), .val (.ref a2), .val (.int (-1 : Int32)), s12] [])) _
        refine XS.aload X0.here hx rfl (hb hby at_386) rfl rfl ?_
        show Steps p.tables e below (T0.setTop (mkF m 388 #[s0, s1, s2, s3, s4, s5, s6, s7, .val (.int (Int32.ofNat o)), .val (.ref a1), .val (.ref a2), .val (.int (-1 : Int32)), s12] [(.ref a1)])) _
        refine XS.aload X0.here hx rfl (hb hby at_388) rfl rfl ?_
        show Steps p.tables e below (T0.setTop (mkF m 390 #[s0, s1, s2, s3, s4, s5, s6, s7, .val (.int (Int32.ofNat o)), .val (.ref a1), .val (.ref a2), .val (.int (-1 : Int32)), s12] [(.ref a2), (.ref a1)])) _
        refine XS.bipush X0.here hx rfl (hb hby at_390) ?_
        show Steps p.tables e below (T0.setTop (mkF m 392 #[s0, s1, s2, s3, s4, s5, s6, s7, .val (.int (Int32.ofNat o)), .val (.ref a1), .val (.ref a2), .val (.int (-1 : Int32)), s12] [(.int (6 : Int32)), (.ref a2), (.ref a1)])) _
        exact k)
    obtain ⟨_, _, ⟨T258, L258, kk258, nn258⟩, -, X258, ⟨Lc258, hQ258, l258, y258, z258⟩, st258⟩ := Jvm.LawKit.callS X0 hx (y := (⟨"com/example/orbweaver/orbweaver/store/GzipMembersIndexOfPinLaw", "matchAt", "([B[BI)Z"⟩ : MethodName)) hown (mvT hZ (hw _ (List.mem_of_getElem? (i := 6) rfl))) (mvT hZ (hw _ (List.mem_of_getElem? (i := 7) rfl))) (mvT hZ (hw _ (List.mem_of_getElem? (i := 4) rfl))) (mvT hZ (hw _ (List.mem_of_getElem? (i := 8) rfl))) (by decide) (backOf (W := 0) (rm5 l Z a0 hw [] a1 a2 n mm 6 hn hm f g cl1 cl2 h0 n0 Z0 (by omega) Ar1 S1 H1 Ar2 S2 H2) hZ (hw _ (List.mem_of_getElem? (i := 8) rfl)) (hw _ (List.mem_of_getElem? (i := 4) rfl)) (by decide) (by decide)) (g := (mkF m 392 #[s0, s1, s2, s3, s4, s5, s6, s7, .val (.int (Int32.ofNat o)), .val (.ref a1), .val (.ref a2), .val (.int (-1 : Int32)), s12] [(.int (6 : Int32)), (.ref a2), (.ref a1)])) rfl (by rw [hml]; rfl) (argsL := [(.ref a1), (.ref a2), (.int (6 : Int32))]) (rest := []) (lenOf pd___B_BI_Z rfl) rfl (by show 2 * 0 + _ ≤ _; exact Nat.le_of_eq rfl) (hb hby at_392) (fun _ _ => ⟨rfl, e0, (by decide : 2 + 0 ≤ _), (by decide : 10 + 0 ≤ _)⟩)
    dsimp only [Pt.U, Pt.locs, Pt.cells, Pt.slots] at X258 l258 y258 z258 st258 hQ258
    subst l258 y258 z258
    obtain ⟨rfl, Nq258, e258⟩ := hQ258
    have N258 := Fr.app N0 Nq258
    have q259 : ∀ t, Steps p.tables e below (T258.setTop (mkF m 395 #[s0, s1, s2, s3, s4, s5, s6, s7, .val (.int (Int32.ofNat o)), .val (.ref a1), .val (.ref a2), .val (.int (-1 : Int32)), s12] [(.int (own_mt f g n mm 6))])) t → Steps p.tables e below (T0.setTop (mkF m 379 #[s0, s1, s2, s3, s4, s5, s6, s7, .val (.int (Int32.ofNat o)), .val (.ref a1), .val (.ref a2), .val (.int (-1 : Int32)), s12] [])) t := fun t k => q257 t (st258 t k)
    by_cases km : (own_mt f g n mm 6) = (0 : Int32)
    · skip
      have q260 : ∀ t, Steps p.tables e below (T258.setTop (mkF m 405 #[s0, s1, s2, s3, s4, s5, s6, s7, .val (.int (Int32.ofNat o)), .val (.ref a1), .val (.ref a2), .val (.int (-1 : Int32)), s12] [])) t → Steps p.tables e below (T0.setTop (mkF m 379 #[s0, s1, s2, s3, s4, s5, s6, s7, .val (.int (Int32.ofNat o)), .val (.ref a1), .val (.ref a2), .val (.int (-1 : Int32)), s12] [])) t := fun t k => q259 t (by
          show Steps p.tables e below (T258.setTop (mkF m 395 #[s0, s1, s2, s3, s4, s5, s6, s7, .val (.int (Int32.ofNat o)), .val (.ref a1), .val (.ref a2), .val (.int (-1 : Int32)), s12] [(.int (own_mt f g n mm 6))])) _
          refine XS.ifYes X258.here hx rfl (pc0 := 395) (pc' := 405) rfl (hb hby at_395) rfl (XT.i0_eq_t (km : (own_mt f g n mm 6) = (0 : Int32))) (by decide) (by decide) ?_
          show Steps p.tables e below (T258.setTop (mkF m 405 #[s0, s1, s2, s3, s4, s5, s6, s7, .val (.int (Int32.ofNat o)), .val (.ref a1), .val (.ref a2), .val (.int (-1 : Int32)), s12] [])) _
          exact k)
      exact Or.inr ⟨_, _, X258, e258, N258, Or.inr km, q260⟩
    · skip
      have q261 : ∀ t, Steps p.tables e below (T258.setTop (mkF m 428 #[s0, s1, s2, s3, s4, s5, s6, s7, .val (.int (Int32.ofNat o)), .val (.ref a1), .val (.ref a2), .val (.int (6 : Int32)), s12] [])) t → Steps p.tables e below (T0.setTop (mkF m 379 #[s0, s1, s2, s3, s4, s5, s6, s7, .val (.int (Int32.ofNat o)), .val (.ref a1), .val (.ref a2), .val (.int (-1 : Int32)), s12] [])) t := fun t k => q259 t (by
          show Steps p.tables e below (T258.setTop (mkF m 395 #[s0, s1, s2, s3, s4, s5, s6, s7, .val (.int (Int32.ofNat o)), .val (.ref a1), .val (.ref a2), .val (.int (-1 : Int32)), s12] [(.int (own_mt f g n mm 6))])) _
          refine XS.ifNo X258.here hx rfl (hb hby at_395) rfl (XT.i0_eq_f (km : ¬ ((own_mt f g n mm 6) = (0 : Int32)))) ?_
          show Steps p.tables e below (T258.setTop (mkF m 398 #[s0, s1, s2, s3, s4, s5, s6, s7, .val (.int (Int32.ofNat o)), .val (.ref a1), .val (.ref a2), .val (.int (-1 : Int32)), s12] [])) _
          refine XS.bipush X258.here hx rfl (hb hby at_398) ?_
          show Steps p.tables e below (T258.setTop (mkF m 400 #[s0, s1, s2, s3, s4, s5, s6, s7, .val (.int (Int32.ofNat o)), .val (.ref a1), .val (.ref a2), .val (.int (-1 : Int32)), s12] [(.int (6 : Int32))])) _
          refine XS.istore X258.here hx rfl (hb hby at_400) rfl (l' := #[s0, s1, s2, s3, s4, s5, s6, s7, .val (.int (Int32.ofNat o)), .val (.ref a1), .val (.ref a2), .val (.int (6 : Int32)), s12]) rfl ?_
          show Steps p.tables e below (T258.setTop (mkF m 402 #[s0, s1, s2, s3, s4, s5, s6, s7, .val (.int (Int32.ofNat o)), .val (.ref a1), .val (.ref a2), .val (.int (6 : Int32)), s12] [])) _
          refine XS.goto X258.here hx rfl (pc0 := 402) (pc' := 428) rfl (hb hby at_402) (by decide) (by decide) ?_
          show Steps p.tables e below (T258.setTop (mkF m 428 #[s0, s1, s2, s3, s4, s5, s6, s7, .val (.int (Int32.ofNat o)), .val (.ref a1), .val (.ref a2), .val (.int (6 : Int32)), s12] [])) _
          exact k)
      exact Or.inl ⟨_, _, X258, e258, N258, ho', km, q261⟩
set_option maxRecDepth 65536 in
set_option maxHeartbeats 40000000 in
theorem sm7 {p : Program} {l : Launch} {e : Env} {s : State} {m : MethodId} {args : Array Value} {below : List Frame} {meth : Method} {c : Code} {T0 : State} {locs : List Loc} {Z : State} {a0 : Array Value} {h0 : Heap} (s0 s1 s2 s3 s4 s5 s6 s7 s12 : Slot) (a1 a2 : Addr) (n mm o : Nat) (hn : n ≤ 7) (hm : mm ≤ 3) (ho : o ≤ 9) (f g : Nat → Int32) (cl1 cl2 : Cell) (n0 : Nat)
    (X0 : Stand p l e room_1 s m args below meth c T0 locs 2 10) (hx : p.tables.exec = Jvm.exec) (hZ : Z.Warmed39 s.vm) (hw : ∀ d ∈ tables_1, d.before a0 Z = true) (hby : c.code = code) (hml : c.maxLocals = 13) (hown : s.vm.findClass "com/example/orbweaver/orbweaver/store/GzipMembersIndexOfPinLaw" = some m.cls) (e0 : T0.heap = h0) (Z0 : n0 ≤ h0.size) (N0 : Fr n0 locs) (Ar1 : Arr Z h0 a1 cl1 .byte) (S1 : cl1.slots.size = n) (H1 : ∀ i, i < cl1.slots.size → cl1.slots[i]? = some (.int (f i))) (Ar2 : Arr Z h0 a2 cl2 .byte) (S2 : cl2.slots.size = mm) (H2 : ∀ i, i < cl2.slots.size → cl2.slots[i]? = some (.int (g i))) :
    (∃ (T' : State) (locs' : List Loc), Stand p l e room_1 s m args below meth c T' locs' 2 10 ∧ T'.heap = h0 ∧ Fr n0 locs' ∧ o ≤ 7 ∧ ¬ own_mt f g n mm 7 = 0 ∧ ∀ t, Steps p.tables e below (T'.setTop (mkF m 428 #[s0, s1, s2, s3, s4, s5, s6, s7, .val (.int (Int32.ofNat o)), .val (.ref a1), .val (.ref a2), .val (.int (7 : Int32)), s12] [])) t → Steps p.tables e below (T0.setTop (mkF m 405 #[s0, s1, s2, s3, s4, s5, s6, s7, .val (.int (Int32.ofNat o)), .val (.ref a1), .val (.ref a2), .val (.int (-1 : Int32)), s12] [])) t) ∨ (∃ (T' : State) (locs' : List Loc), Stand p l e room_1 s m args below meth c T' locs' 2 10 ∧ T'.heap = h0 ∧ Fr n0 locs' ∧ (7 < o ∨ own_mt f g n mm 7 = 0) ∧ ∀ t, Steps p.tables e below (T'.setTop (mkF m 428 #[s0, s1, s2, s3, s4, s5, s6, s7, .val (.int (Int32.ofNat o)), .val (.ref a1), .val (.ref a2), .val (.int (-1 : Int32)), s12] [])) t → Steps p.tables e below (T0.setTop (mkF m 405 #[s0, s1, s2, s3, s4, s5, s6, s7, .val (.int (Int32.ofNat o)), .val (.ref a1), .val (.ref a2), .val (.int (-1 : Int32)), s12] [])) t) := by
  have pre0 : ∀ t, Steps p.tables e below (T0.setTop (mkF m 405 #[s0, s1, s2, s3, s4, s5, s6, s7, .val (.int (Int32.ofNat o)), .val (.ref a1), .val (.ref a2), .val (.int (-1 : Int32)), s12] [])) t → Steps p.tables e below (T0.setTop (mkF m 405 #[s0, s1, s2, s3, s4, s5, s6, s7, .val (.int (Int32.ofNat o)), .val (.ref a1), .val (.ref a2), .val (.int (-1 : Int32)), s12] [])) t := fun t k => k
  have q262 : ∀ t, Steps p.tables e below (T0.setTop (mkF m 409 #[s0, s1, s2, s3, s4, s5, s6, s7, .val (.int (Int32.ofNat o)), .val (.ref a1), .val (.ref a2), .val (.int (-1 : Int32)), s12] [(.int (7 : Int32)), (.int (Int32.ofNat o))])) t → Steps p.tables e below (T0.setTop (mkF m 405 #[s0, s1, s2, s3, s4, s5, s6, s7, .val (.int (Int32.ofNat o)), .val (.ref a1), .val (.ref a2), .val (.int (-1 : Int32)), s12] [])) t := fun t k => pre0 t (by
      show Steps p.tables e below (T0.setTop (mkF m 405 #[s0, s1, s2, s3, s4, s5, s6, s7, .val (.int (Int32.ofNat o)), .val (.ref a1), .val (.ref a2), .val (.int (-1 : Int32)), s12] [])) _
      refine XS.iload X0.here hx rfl (hb hby at_405) rfl ?_
      show Steps p.tables e below (T0.setTop (mkF m 407 #[s0, s1, s2, s3, s4, s5, s6, s7, .val (.int (Int32.ofNat o)), .val (.ref a1), .val (.ref a2), .val (.int (-1 : Int32)), s12] [(.int (Int32.ofNat o))])) _
      refine XS.bipush X0.here hx rfl (hb hby at_407) ?_
      show Steps p.tables e below (T0.setTop (mkF m 409 #[s0, s1, s2, s3, s4, s5, s6, s7, .val (.int (Int32.ofNat o)), .val (.ref a1), .val (.ref a2), .val (.int (-1 : Int32)), s12] [(.int (7 : Int32)), (.int (Int32.ofNat o))])) _
      exact k)
  by_cases ko : (7 : Int32) < (Int32.ofNat o)
  · skip
    have q263 : ∀ t, Steps p.tables e below (T0.setTop (mkF m 428 #[s0, s1, s2, s3, s4, s5, s6, s7, .val (.int (Int32.ofNat o)), .val (.ref a1), .val (.ref a2), .val (.int (-1 : Int32)), s12] [])) t → Steps p.tables e below (T0.setTop (mkF m 405 #[s0, s1, s2, s3, s4, s5, s6, s7, .val (.int (Int32.ofNat o)), .val (.ref a1), .val (.ref a2), .val (.int (-1 : Int32)), s12] [])) t := fun t k => q262 t (by
        show Steps p.tables e below (T0.setTop (mkF m 409 #[s0, s1, s2, s3, s4, s5, s6, s7, .val (.int (Int32.ofNat o)), .val (.ref a1), .val (.ref a2), .val (.int (-1 : Int32)), s12] [(.int (7 : Int32)), (.int (Int32.ofNat o))])) _
        refine XS.icmpYes X0.here hx rfl (pc0 := 409) (pc' := 428) rfl (hb hby at_409) rfl (XT.ii_gt_t (ko : (7 : Int32) < (Int32.ofNat o))) (by decide) (by decide) ?_
        show Steps p.tables e below (T0.setTop (mkF m 428 #[s0, s1, s2, s3, s4, s5, s6, s7, .val (.int (Int32.ofNat o)), .val (.ref a1), .val (.ref a2), .val (.int (-1 : Int32)), s12] [])) _
        exact k)
    exact Or.inr ⟨_, _, X0, e0, N0, Or.inl ((own_ltn (i := 7) (by omega) (by omega)).mp ko), q263⟩
  · skip
    have ho' : o ≤ 7 := Nat.le_of_not_lt fun y => ko ((own_ltn (i := 7) (by omega) (by omega)).mpr y)
    have q264 : ∀ t, Steps p.tables e below (T0.setTop (mkF m 418 #[s0, s1, s2, s3, s4, s5, s6, s7, .val (.int (Int32.ofNat o)), .val (.ref a1), .val (.ref a2), .val (.int (-1 : Int32)), s12] [(.int (7 : Int32)), (.ref a2), (.ref a1)])) t → Steps p.tables e below (T0.setTop (mkF m 405 #[s0, s1, s2, s3, s4, s5, s6, s7, .val (.int (Int32.ofNat o)), .val (.ref a1), .val (.ref a2), .val (.int (-1 : Int32)), s12] [])) t := fun t k => q262 t (by
        show Steps p.tables e below (T0.setTop (mkF m 409 #[s0, s1, s2, s3, s4, s5, s6, s7, .val (.int (Int32.ofNat o)), .val (.ref a1), .val (.ref a2), .val (.int (-1 : Int32)), s12] [(.int (7 : Int32)), (.int (Int32.ofNat o))])) _
        refine XS.icmpNo X0.here hx rfl (hb hby at_409) rfl (XT.ii_gt_f (ko : ¬ ((7 : Int32) < (Int32.ofNat o)))) ?_
        show Steps p.tables e below (T0.setTop (mkF m 412 #[s0, s1, s2, s3, s4, s5, s6, s7, .val (.int (Int32.ofNat o)), .val (.ref a1), .val (.ref a2), .val (.int (-1 : Int32)), s12] [])) _
        refine XS.aload X0.here hx rfl (hb hby at_412) rfl rfl ?_
        show Steps p.tables e below (T0.setTop (mkF m 414 #[s0, s1, s2, s3, s4, s5, s6, s7, .val (.int (Int32.ofNat o)), .val (.ref a1), .val (.ref a2), .val (.int (-1 : Int32)), s12] [(.ref a1)])) _
        refine XS.aload X0.here hx rfl (hb hby at_414) rfl rfl ?_
        show Steps p.tables e below (T0.setTop (mkF m 416 #[s0, s1, s2, s3, s4, s5, s6, s7, .val (.int (Int32.ofNat o)), .val (.ref a1), .val (.ref a2), .val (.int (-1 : Int32)), s12] [(.ref a2), (.ref a1)])) _
        refine XS.bipush X0.here hx rfl (hb hby at_416) ?_
        show Steps p.tables e below (T0.setTop (mkF m 418 #[s0, s1, s2, s3, s4, s5, s6, s7, .val (.int (Int32.ofNat o)), .val (.ref a1), .val (.ref a2), .val (.int (-1 : Int32)), s12] [(.int (7 : Int32)), (.ref a2), (.ref a1)])) _
        exact k)
    obtain ⟨_, _, ⟨T265, L265, kk265, nn265⟩, -, X265, ⟨Lc265, hQ265, l265, y265, z265⟩, st265⟩ := Jvm.LawKit.callS X0 hx (y := (⟨"com/example/orbweaver/orbweaver/store/GzipMembersIndexOfPinLaw", "matchAt", "([B[BI)Z"⟩ : MethodName)) hown (mvT hZ (hw _ (List.mem_of_getElem? (i := 6) rfl))) (mvT hZ (hw _ (List.mem_of_getElem? (i := 7) rfl))) (mvT hZ (hw _ (List.mem_of_getElem? (i := 4) rfl))) (mvT hZ (hw _ (List.mem_of_getElem? (i := 8) rfl))) (by decide) (backOf (W := 0) (rm5 l Z a0 hw [] a1 a2 n mm 7 hn hm f g cl1 cl2 h0 n0 Z0 (by omega) Ar1 S1 H1 Ar2 S2 H2) hZ (hw _ (List.mem_of_getElem? (i := 8) rfl)) (hw _ (List.mem_of_getElem? (i := 4) rfl)) (by decide) (by decide)) (g := (mkF m 418 #[s0, s1, s2, s3, s4, s5, s6, s7, .val (.int (Int32.ofNat o)), .val (.ref a1), .val (.ref a2), .val (.int (-1 : Int32)), s12] [(.int (7 : Int32)), (.ref a2), (.ref a1)])) rfl (by rw [hml]; rfl) (argsL := [(.ref a1), (.ref a2), (.int (7 : Int32))]) (rest := []) (lenOf pd___B_BI_Z rfl) rfl (by show 2 * 0 + _ ≤ _; exact Nat.le_of_eq rfl) (hb hby at_418) (fun _ _ => ⟨rfl, e0, (by decide : 2 + 0 ≤ _), (by decide : 10 + 0 ≤ _)⟩)
    dsimp only [Pt.U, Pt.locs, Pt.cells, Pt.slots] at X265 l265 y265 z265 st265 hQ265
    subst l265 y265 z265
    obtain ⟨rfl, Nq265, e265⟩ := hQ265
    have N265 := Fr.app N0 Nq265
    have q266 : ∀ t, Steps p.tables e below (T265.setTop (mkF m 421 #[s0, s1, s2, s3, s4, s5, s6, s7, .val (.int (Int32.ofNat o)), .val (.ref a1), .val (.ref a2), .val (.int (-1 : Int32)), s12] [(.int (own_mt f g n mm 7))])) t → Steps p.tables e below (T0.setTop (mkF m 405 #[s0, s1, s2, s3, s4, s5, s6, s7, .val (.int (Int32.ofNat o)), .val (.ref a1), .val (.ref a2), .val (.int (-1 : Int32)), s12] [])) t := fun t k => q264 t (st265 t k)
    by_cases km : (own_mt f g n mm 7) = (0 : Int32)
    · skip
      have q267 : ∀ t, Steps p.tables e below (T265.setTop (mkF m 428 #[s0, s1, s2, s3, s4, s5, s6, s7, .val (.int (Int32.ofNat o)), .val (.ref a1), .val (.ref a2), .val (.int (-1 : Int32)), s12] [])) t → Steps p.tables e below (T0.setTop (mkF m 405 #[s0, s1, s2, s3, s4, s5, s6, s7, .val (.int (Int32.ofNat o)), .val (.ref a1), .val (.ref a2), .val (.int (-1 : Int32)), s12] [])) t := fun t k => q266 t (by
          show Steps p.tables e below (T265.setTop (mkF m 421 #[s0, s1, s2, s3, s4, s5, s6, s7, .val (.int (Int32.ofNat o)), .val (.ref a1), .val (.ref a2), .val (.int (-1 : Int32)), s12] [(.int (own_mt f g n mm 7))])) _
          refine XS.ifYes X265.here hx rfl (pc0 := 421) (pc' := 428) rfl (hb hby at_421) rfl (XT.i0_eq_t (km : (own_mt f g n mm 7) = (0 : Int32))) (by decide) (by decide) ?_
          show Steps p.tables e below (T265.setTop (mkF m 428 #[s0, s1, s2, s3, s4, s5, s6, s7, .val (.int (Int32.ofNat o)), .val (.ref a1), .val (.ref a2), .val (.int (-1 : Int32)), s12] [])) _
          exact k)
      exact Or.inr ⟨_, _, X265, e265, N265, Or.inr km, q267⟩
    · skip
      have q268 : ∀ t, Steps p.tables e below (T265.setTop (mkF m 428 #[s0, s1, s2, s3, s4, s5, s6, s7, .val (.int (Int32.ofNat o)), .val (.ref a1), .val (.ref a2), .val (.int (7 : Int32)), s12] [])) t → Steps p.tables e below (T0.setTop (mkF m 405 #[s0, s1, s2, s3, s4, s5, s6, s7, .val (.int (Int32.ofNat o)), .val (.ref a1), .val (.ref a2), .val (.int (-1 : Int32)), s12] [])) t := fun t k => q266 t (by
          show Steps p.tables e below (T265.setTop (mkF m 421 #[s0, s1, s2, s3, s4, s5, s6, s7, .val (.int (Int32.ofNat o)), .val (.ref a1), .val (.ref a2), .val (.int (-1 : Int32)), s12] [(.int (own_mt f g n mm 7))])) _
          refine XS.ifNo X265.here hx rfl (hb hby at_421) rfl (XT.i0_eq_f (km : ¬ ((own_mt f g n mm 7) = (0 : Int32)))) ?_
          show Steps p.tables e below (T265.setTop (mkF m 424 #[s0, s1, s2, s3, s4, s5, s6, s7, .val (.int (Int32.ofNat o)), .val (.ref a1), .val (.ref a2), .val (.int (-1 : Int32)), s12] [])) _
          refine XS.bipush X265.here hx rfl (hb hby at_424) ?_
          show Steps p.tables e below (T265.setTop (mkF m 426 #[s0, s1, s2, s3, s4, s5, s6, s7, .val (.int (Int32.ofNat o)), .val (.ref a1), .val (.ref a2), .val (.int (-1 : Int32)), s12] [(.int (7 : Int32))])) _
          refine XS.istore X265.here hx rfl (hb hby at_426) rfl (l' := #[s0, s1, s2, s3, s4, s5, s6, s7, .val (.int (Int32.ofNat o)), .val (.ref a1), .val (.ref a2), .val (.int (7 : Int32)), s12]) rfl ?_
          show Steps p.tables e below (T265.setTop (mkF m 428 #[s0, s1, s2, s3, s4, s5, s6, s7, .val (.int (Int32.ofNat o)), .val (.ref a1), .val (.ref a2), .val (.int (7 : Int32)), s12] [])) _
          exact k)
      exact Or.inl ⟨_, _, X265, e265, N265, ho', km, q268⟩
set_option maxRecDepth 65536 in
set_option maxHeartbeats 40000000 in
theorem small {p : Program} {l : Launch} {e : Env} {s : State} {m : MethodId} {args : Array Value} {below : List Frame} {meth : Method} {c : Code} {T0 : State} {locs : List Loc} {Z : State} {a0 : Array Value} {h0 : Heap} (s0 s1 s2 s3 s4 s5 s6 s7 s12 : Slot) (a1 a2 : Addr) (n mm o : Nat) (hn : n ≤ 7) (hm : mm ≤ 3) (ho : o ≤ 9) (f g : Nat → Int32) (cl1 cl2 : Cell) (n0 : Nat)
    (X0 : Stand p l e room_1 s m args below meth c T0 locs 2 10) (hx : p.tables.exec = Jvm.exec) (hZ : Z.Warmed39 s.vm) (hw : ∀ d ∈ tables_1, d.before a0 Z = true) (hby : c.code = code) (hml : c.maxLocals = 13) (hown : s.vm.findClass "com/example/orbweaver/orbweaver/store/GzipMembersIndexOfPinLaw" = some m.cls) (e0 : T0.heap = h0) (Z0 : n0 ≤ h0.size) (N0 : Fr n0 locs) (Ar1 : Arr Z h0 a1 cl1 .byte) (S1 : cl1.slots.size = n) (H1 : ∀ i, i < cl1.slots.size → cl1.slots[i]? = some (.int (f i))) (Ar2 : Arr Z h0 a2 cl2 .byte) (S2 : cl2.slots.size = mm) (H2 : ∀ i, i < cl2.slots.size → cl2.slots[i]? = some (.int (g i))) :
    ∃ (T' : State) (locs' : List Loc) (z : Int32), Stand p l e room_1 s m args below meth c T' locs' 2 10 ∧ T'.heap = h0 ∧ Fr n0 locs' ∧ z = own_ix f g mm (n + 1 - (o + mm)) o ∧ ∀ t, Steps p.tables e below (T'.setTop (mkF m 428 #[s0, s1, s2, s3, s4, s5, s6, s7, .val (.int (Int32.ofNat o)), .val (.ref a1), .val (.ref a2), .val (.int z), s12] [])) t → Steps p.tables e below (T0.setTop (mkF m 242 #[s0, s1, s2, s3, s4, s5, s6, s7, .val (.int (Int32.ofNat o)), .val (.ref a1), .val (.ref a2), .val (.int (-1 : Int32)), s12] [])) t := by
  have pre0 : ∀ t, Steps p.tables e below (T0.setTop (mkF m 242 #[s0, s1, s2, s3, s4, s5, s6, s7, .val (.int (Int32.ofNat o)), .val (.ref a1), .val (.ref a2), .val (.int (-1 : Int32)), s12] [])) t → Steps p.tables e below (T0.setTop (mkF m 242 #[s0, s1, s2, s3, s4, s5, s6, s7, .val (.int (Int32.ofNat o)), .val (.ref a1), .val (.ref a2), .val (.int (-1 : Int32)), s12] [])) t := fun t k => k
  rcases sm0 s0 s1 s2 s3 s4 s5 s6 s7 s12 a1 a2 n mm o hn hm ho f g cl1 cl2 n0 X0 hx hZ hw hby hml hown e0 Z0 N0 Ar1 S1 H1 Ar2 S2 H2 with ⟨U0, M0, Y0, f0, J0, j0, w0, r0⟩ | ⟨U0, M0, Y0, f0, J0, j0, r0⟩
  · exact ⟨U0, M0, _, Y0, f0, J0, (own_ixk f g n mm 0 w0 _ o rfl j0 fun j q1 q2 => by
      exact absurd q2 (by omega)).symm, fun t y => pre0 t (r0 t y)⟩
  have v0 : ∀ t, Steps p.tables e below (U0.setTop (mkF m 264 #[s0, s1, s2, s3, s4, s5, s6, s7, .val (.int (Int32.ofNat o)), .val (.ref a1), .val (.ref a2), .val (.int (-1 : Int32)), s12] [])) t → Steps p.tables e below (T0.setTop (mkF m 242 #[s0, s1, s2, s3, s4, s5, s6, s7, .val (.int (Int32.ofNat o)), .val (.ref a1), .val (.ref a2), .val (.int (-1 : Int32)), s12] [])) t := fun t y => pre0 t (r0 t y)
  rcases sm1 s0 s1 s2 s3 s4 s5 s6 s7 s12 a1 a2 n mm o hn hm ho f g cl1 cl2 n0 Y0 hx hZ hw hby hml hown f0 Z0 J0 Ar1 S1 H1 Ar2 S2 H2 with ⟨U1, M1, Y1, f1, J1, j1, w1, r1⟩ | ⟨U1, M1, Y1, f1, J1, j1, r1⟩
  · exact ⟨U1, M1, _, Y1, f1, J1, (own_ixk f g n mm 1 w1 _ o rfl j1 fun j q1 q2 => by
      have q3 : j = 0 := by omega
      subst q3
      · exact j0.elim (fun y => absurd y (by omega)) id).symm, fun t y => v0 t (r1 t y)⟩
  have v1 : ∀ t, Steps p.tables e below (U1.setTop (mkF m 287 #[s0, s1, s2, s3, s4, s5, s6, s7, .val (.int (Int32.ofNat o)), .val (.ref a1), .val (.ref a2), .val (.int (-1 : Int32)), s12] [])) t → Steps p.tables e below (T0.setTop (mkF m 242 #[s0, s1, s2, s3, s4, s5, s6, s7, .val (.int (Int32.ofNat o)), .val (.ref a1), .val (.ref a2), .val (.int (-1 : Int32)), s12] [])) t := fun t y => v0 t (r1 t y)
  rcases sm2 s0 s1 s2 s3 s4 s5 s6 s7 s12 a1 a2 n mm o hn hm ho f g cl1 cl2 n0 Y1 hx hZ hw hby hml hown f1 Z0 J1 Ar1 S1 H1 Ar2 S2 H2 with ⟨U2, M2, Y2, f2, J2, j2, w2, r2⟩ | ⟨U2, M2, Y2, f2, J2, j2, r2⟩
  · exact ⟨U2, M2, _, Y2, f2, J2, (own_ixk f g n mm 2 w2 _ o rfl j2 fun j q1 q2 => by
      have q3 : j = 0 ∨ j = 1 := by omega
      rcases q3 with rfl | rfl
      · exact j0.elim (fun y => absurd y (by omega)) id
      · exact j1.elim (fun y => absurd y (by omega)) id).symm, fun t y => v1 t (r2 t y)⟩
  have v2 : ∀ t, Steps p.tables e below (U2.setTop (mkF m 310 #[s0, s1, s2, s3, s4, s5, s6, s7, .val (.int (Int32.ofNat o)), .val (.ref a1), .val (.ref a2), .val (.int (-1 : Int32)), s12] [])) t → Steps p.tables e below (T0.setTop (mkF m 242 #[s0, s1, s2, s3, s4, s5, s6, s7, .val (.int (Int32.ofNat o)), .val (.ref a1), .val (.ref a2), .val (.int (-1 : Int32)), s12] [])) t := fun t y => v1 t (r2 t y)
  rcases sm3 s0 s1 s2 s3 s4 s5 s6 s7 s12 a1 a2 n mm o hn hm ho f g cl1 cl2 n0 Y2 hx hZ hw hby hml hown f2 Z0 J2 Ar1 S1 H1 Ar2 S2 H2 with ⟨U3, M3, Y3, f3, J3, j3, w3, r3⟩ | ⟨U3, M3, Y3, f3, J3, j3, r3⟩
  · exact ⟨U3, M3, _, Y3, f3, J3, (own_ixk f g n mm 3 w3 _ o rfl j3 fun j q1 q2 => by
      have q3 : j = 0 ∨ j = 1 ∨ j = 2 := by omega
      rcases q3 with rfl | rfl | rfl
      · exact j0.elim (fun y => absurd y (by omega)) id
      · exact j1.elim (fun y => absurd y (by omega)) id
      · exact j2.elim (fun y => absurd y (by omega)) id).symm, fun t y => v2 t (r3 t y)⟩
  have v3 : ∀ t, Steps p.tables e below (U3.setTop (mkF m 333 #[s0, s1, s2, s3, s4, s5, s6, s7, .val (.int (Int32.ofNat o)), .val (.ref a1), .val (.ref a2), .val (.int (-1 : Int32)), s12] [])) t → Steps p.tables e below (T0.setTop (mkF m 242 #[s0, s1, s2, s3, s4, s5, s6, s7, .val (.int (Int32.ofNat o)), .val (.ref a1), .val (.ref a2), .val (.int (-1 : Int32)), s12] [])) t := fun t y => v2 t (r3 t y)
  rcases sm4 s0 s1 s2 s3 s4 s5 s6 s7 s12 a1 a2 n mm o hn hm ho f g cl1 cl2 n0 Y3 hx hZ hw hby hml hown f3 Z0 J3 Ar1 S1 H1 Ar2 S2 H2 with ⟨U4, M4, Y4, f4, J4, j4, w4, r4⟩ | ⟨U4, M4, Y4, f4, J4, j4, r4⟩
  · exact ⟨U4, M4, _, Y4, f4, J4, (own_ixk f g n mm 4 w4 _ o rfl j4 fun j q1 q2 => by
      have q3 : j = 0 ∨ j = 1 ∨ j = 2 ∨ j = 3 := by omega
      rcases q3 with rfl | rfl | rfl | rfl
      · exact j0.elim (fun y => absurd y (by omega)) id
      · exact j1.elim (fun y => absurd y (by omega)) id
      · exact j2.elim (fun y => absurd y (by omega)) id
      · exact j3.elim (fun y => absurd y (by omega)) id).symm, fun t y => v3 t (r4 t y)⟩
  have v4 : ∀ t, Steps p.tables e below (U4.setTop (mkF m 356 #[s0, s1, s2, s3, s4, s5, s6, s7, .val (.int (Int32.ofNat o)), .val (.ref a1), .val (.ref a2), .val (.int (-1 : Int32)), s12] [])) t → Steps p.tables e below (T0.setTop (mkF m 242 #[s0, s1, s2, s3, s4, s5, s6, s7, .val (.int (Int32.ofNat o)), .val (.ref a1), .val (.ref a2), .val (.int (-1 : Int32)), s12] [])) t := fun t y => v3 t (r4 t y)
  rcases sm5 s0 s1 s2 s3 s4 s5 s6 s7 s12 a1 a2 n mm o hn hm ho f g cl1 cl2 n0 Y4 hx hZ hw hby hml hown f4 Z0 J4 Ar1 S1 H1 Ar2 S2 H2 with ⟨U5, M5, Y5, f5, J5, j5, w5, r5⟩ | ⟨U5, M5, Y5, f5, J5, j5, r5⟩
  · exact ⟨U5, M5, _, Y5, f5, J5, (own_ixk f g n mm 5 w5 _ o rfl j5 fun j q1 q2 => by
      have q3 : j = 0 ∨ j = 1 ∨ j = 2 ∨ j = 3 ∨ j = 4 := by omega
      rcases q3 with rfl | rfl | rfl | rfl | rfl
      · exact j0.elim (fun y => absurd y (by omega)) id
      · exact j1.elim (fun y => absurd y (by omega)) id
      · exact j2.elim (fun y => absurd y (by omega)) id
      · exact j3.elim (fun y => absurd y (by omega)) id
      · exact j4.elim (fun y => absurd y (by omega)) id).symm, fun t y => v4 t (r5 t y)⟩
  have v5 : ∀ t, Steps p.tables e below (U5.setTop (mkF m 379 #[s0, s1, s2, s3, s4, s5, s6, s7, .val (.int (Int32.ofNat o)), .val (.ref a1), .val (.ref a2), .val (.int (-1 : Int32)), s12] [])) t → Steps p.tables e below (T0.setTop (mkF m 242 #[s0, s1, s2, s3, s4, s5, s6, s7, .val (.int (Int32.ofNat o)), .val (.ref a1), .val (.ref a2), .val (.int (-1 : Int32)), s12] [])) t := fun t y => v4 t (r5 t y)
  rcases sm6 s0 s1 s2 s3 s4 s5 s6 s7 s12 a1 a2 n mm o hn hm ho f g cl1 cl2 n0 Y5 hx hZ hw hby hml hown f5 Z0 J5 Ar1 S1 H1 Ar2 S2 H2 with ⟨U6, M6, Y6, f6, J6, j6, w6, r6⟩ | ⟨U6, M6, Y6, f6, J6, j6, r6⟩
  · exact ⟨U6, M6, _, Y6, f6, J6, (own_ixk f g n mm 6 w6 _ o rfl j6 fun j q1 q2 => by
      have q3 : j = 0 ∨ j = 1 ∨ j = 2 ∨ j = 3 ∨ j = 4 ∨ j = 5 := by omega
      rcases q3 with rfl | rfl | rfl | rfl | rfl | rfl
      · exact j0.elim (fun y => absurd y (by omega)) id
      · exact j1.elim (fun y => absurd y (by omega)) id
      · exact j2.elim (fun y => absurd y (by omega)) id
      · exact j3.elim (fun y => absurd y (by omega)) id
      · exact j4.elim (fun y => absurd y (by omega)) id
      · exact j5.elim (fun y => absurd y (by omega)) id).symm, fun t y => v5 t (r6 t y)⟩
  have v6 : ∀ t, Steps p.tables e below (U6.setTop (mkF m 405 #[s0, s1, s2, s3, s4, s5, s6, s7, .val (.int (Int32.ofNat o)), .val (.ref a1), .val (.ref a2), .val (.int (-1 : Int32)), s12] [])) t → Steps p.tables e below (T0.setTop (mkF m 242 #[s0, s1, s2, s3, s4, s5, s6, s7, .val (.int (Int32.ofNat o)), .val (.ref a1), .val (.ref a2), .val (.int (-1 : Int32)), s12] [])) t := fun t y => v5 t (r6 t y)
  rcases sm7 s0 s1 s2 s3 s4 s5 s6 s7 s12 a1 a2 n mm o hn hm ho f g cl1 cl2 n0 Y6 hx hZ hw hby hml hown f6 Z0 J6 Ar1 S1 H1 Ar2 S2 H2 with ⟨U7, M7, Y7, f7, J7, j7, w7, r7⟩ | ⟨U7, M7, Y7, f7, J7, j7, r7⟩
  · exact ⟨U7, M7, _, Y7, f7, J7, (own_ixk f g n mm 7 w7 _ o rfl j7 fun j q1 q2 => by
      have q3 : j = 0 ∨ j = 1 ∨ j = 2 ∨ j = 3 ∨ j = 4 ∨ j = 5 ∨ j = 6 := by omega
      rcases q3 with rfl | rfl | rfl | rfl | rfl | rfl | rfl
      · exact j0.elim (fun y => absurd y (by omega)) id
      · exact j1.elim (fun y => absurd y (by omega)) id
      · exact j2.elim (fun y => absurd y (by omega)) id
      · exact j3.elim (fun y => absurd y (by omega)) id
      · exact j4.elim (fun y => absurd y (by omega)) id
      · exact j5.elim (fun y => absurd y (by omega)) id
      · exact j6.elim (fun y => absurd y (by omega)) id).symm, fun t y => v6 t (r7 t y)⟩
  have v7 : ∀ t, Steps p.tables e below (U7.setTop (mkF m 428 #[s0, s1, s2, s3, s4, s5, s6, s7, .val (.int (Int32.ofNat o)), .val (.ref a1), .val (.ref a2), .val (.int (-1 : Int32)), s12] [])) t → Steps p.tables e below (T0.setTop (mkF m 242 #[s0, s1, s2, s3, s4, s5, s6, s7, .val (.int (Int32.ofNat o)), .val (.ref a1), .val (.ref a2), .val (.int (-1 : Int32)), s12] [])) t := fun t y => v6 t (r7 t y)
  refine ⟨U7, M7, _, Y7, f7, J7, (own_ixn f g n mm _ o rfl fun j q1 q2 => ?_).symm, v7⟩
  have q3 : j = 0 ∨ j = 1 ∨ j = 2 ∨ j = 3 ∨ j = 4 ∨ j = 5 ∨ j = 6 ∨ j = 7 := by omega
  rcases q3 with rfl | rfl | rfl | rfl | rfl | rfl | rfl | rfl
  · exact j0.elim (fun y => absurd y (by omega)) id
  · exact j1.elim (fun y => absurd y (by omega)) id
  · exact j2.elim (fun y => absurd y (by omega)) id
  · exact j3.elim (fun y => absurd y (by omega)) id
  · exact j4.elim (fun y => absurd y (by omega)) id
  · exact j5.elim (fun y => absurd y (by omega)) id
  · exact j6.elim (fun y => absurd y (by omega)) id
  · exact j7.elim (fun y => absurd y (by omega)) id
def QL (n0 : Nat) (v : Option Value) (h : Heap) (L : List Loc) : Prop := v = some (.int (1 : Int32)) ∧ Fr n0 L
theorem ef_0 (m : MethodId) (p1 : Int32) (p2 : Int32) (p3 : Int32) (p4 : Int32) : entryFrame m #[(.int p1), (.int p2), (.int p3), (.int p4)] maxLocals = mkF m 0 #[.val (.int p1), .val (.int p2), .val (.int p3), .val (.int p4), .unset, .unset, .unset, .unset, .unset, .unset, .unset, .unset, .unset] [] := by first | (simp [entryFrame, mkF, argsToLocals, Value.category, maxLocals]; done) | rfl
theorem pd___BI_B_I : parseMethodDescriptor "([BI[B)I" = some ⟨[(.array .byte), .int, (.array .byte)], some .int⟩ := by decide +kernel
set_option maxRecDepth 65536 in
set_option maxHeartbeats 40000000 in
theorem rm0 (l : Launch) (Z : State) (a0 : Array Value) (hw : ∀ d ∈ tables_1, d.before a0 Z = true) (ws : List Jvm.Cond) (p1 : Int32) (p2 : Int32) (p3 : Int32) (p4 : Int32) (h0 : Heap) (n0 : Nat) (Z0 : n0 ≤ h0.size) :
    MetFree l x (head1 (Jvm.Cond.code x code maxLocals ret :: ws) room_1) (fun a U => a = #[(.int p1), (.int p2), (.int p3), (.int p4)] ∧ Z.Warmed39 U.vm ∧ U.heap = h0) (fun _ _ _ _ _ => True) (fun _ U o U' => ∃ v L, o = .returned v ∧ QL n0 v U'.heap L ∧ FrameEnd U o U' L room_1.cells room_1.slots) := by
  refine MetFree.of_bodySF (plainFor_of_name pn_com_example_orbweaver_orbweaver_store_GzipMembersIndexOfPinLaw) hisR ?_
  intro p e s m args below meth c s₁ Bd hml0 hP hK
  obtain ⟨rfl, hZ, hh⟩ := hP
  have hx := Bd.exec
  have hby := Bd.bytes
  have hml : c.maxLocals = 13 := hml0
  have hown : s.vm.findClass "com/example/orbweaver/orbweaver/store/GzipMembersIndexOfPinLaw" = some m.cls := findClass_of_methodNamed Bd.named
  have hnm := (name_of_methodNamed Bd.named Bd.method).1
  have X0 : Stand p l e room_1 s m #[(.int p1), (.int p2), (.int p3), (.int p4)] below meth c s₁ [] 0 0 := Stand.of_body Bd
  have e0 : s₁.heap = h0 := by rw [← hh, Bd.state]; rfl
  have N0 := Fr.nil n0
  have pre0 : ∀ t, Steps p.tables e below (s₁.setTop (mkF m 0 #[.val (.int p1), .val (.int p2), .val (.int p3), .val (.int p4), .unset, .unset, .unset, .unset, .unset, .unset, .unset, .unset, .unset] [])) t → Steps p.tables e below (s₁.setTop (entryFrame m #[(.int p1), (.int p2), (.int p3), (.int p4)] maxLocals)) t := fun t k => castTop (ef_0 m p1 p2 p3 p4) k
  have lit_7 : (7 : Int32).toInt = 7 := rfl
  have lit_3 : (3 : Int32).toInt = 3 := rfl
  have lit_10 : (10 : Int32).toInt = 10 := rfl
  have lit_7f : (2147483647 : Int32).toInt = 2147483647 := rfl
  obtain ⟨n, hn, eN'⟩ : ∃ z : Nat, z ≤ 7 ∧ (p3 &&& (7 : Int32)) = Int32.ofNat z := own_nat (by have q := c_and p3 (7 : Int32) (by omega); omega) 7 (by have q := c_and p3 (7 : Int32) (by omega); omega) (by omega)
  obtain ⟨mm, hm, eM'⟩ : ∃ z : Nat, z ≤ 3 ∧ (((p3.toUInt32 >>> ((3 : Int32) &&& 31).toUInt32).toInt32) &&& (3 : Int32)) = Int32.ofNat z := own_nat (by have q := c_and ((p3.toUInt32 >>> ((3 : Int32) &&& 31).toUInt32).toInt32) (3 : Int32) (by omega); omega) 3 (by have q := c_and ((p3.toUInt32 >>> ((3 : Int32) &&& 31).toUInt32).toInt32) (3 : Int32) (by omega); omega) (by omega)
  obtain ⟨o, ho, eO'⟩ : ∃ z : Nat, z ≤ 9 ∧ ((p4 &&& (2147483647 : Int32)) % (10 : Int32)) = Int32.ofNat z := own_nat (by have q := c_and p4 (2147483647 : Int32) (by omega); have q2 := (c_iremV (p4 &&& (2147483647 : Int32)) (10 : Int32)).1 (by omega) (by omega); omega) 9 (by have q := c_and p4 (2147483647 : Int32) (by omega); have q2 := (c_iremV (p4 &&& (2147483647 : Int32)) (10 : Int32)).1 (by omega) (by omega); omega) (by omega)
  have eN := eN'.symm
  have eM := eM'.symm
  have eO := eO'.symm
  have q277 : ∀ t, Steps p.tables e below (s₁.setTop (mkF m 33 #[.val (.int p1), .val (.int p2), .val (.int p3), .val (.int p4), .val (.int (p1.toInt8.toInt32)), .val (.int (((p1.toUInt32 >>> ((8 : Int32) &&& 31).toUInt32).toInt32).toInt8.toInt32)), .val (.int (p3 &&& (7 : Int32))), .val (.int (((p3.toUInt32 >>> ((3 : Int32) &&& 31).toUInt32).toInt32) &&& (3 : Int32))), .val (.int ((p4 &&& (2147483647 : Int32)) % (10 : Int32))), .unset, .unset, .unset, .unset] [])) t → Steps p.tables e below (s₁.setTop (entryFrame m #[(.int p1), (.int p2), (.int p3), (.int p4)] maxLocals)) t := fun t k => pre0 t (by
      show Steps p.tables e below (s₁.setTop (mkF m 0 #[.val (.int p1), .val (.int p2), .val (.int p3), .val (.int p4), .unset, .unset, .unset, .unset, .unset, .unset, .unset, .unset, .unset] [])) _
      refine XS.iloadN X0.here hx rfl (hb hby at_0) rfl ?_
      show Steps p.tables e below (s₁.setTop (mkF m 1 #[.val (.int p1), .val (.int p2), .val (.int p3), .val (.int p4), .unset, .unset, .unset, .unset, .unset, .unset, .unset, .unset, .unset] [(.int p1)])) _
      refine XS.i2b X0.here hx rfl (hb hby at_1) rfl ?_
      show Steps p.tables e below (s₁.setTop (mkF m 2 #[.val (.int p1), .val (.int p2), .val (.int p3), .val (.int p4), .unset, .unset, .unset, .unset, .unset, .unset, .unset, .unset, .unset] [(.int (p1.toInt8.toInt32))])) _
      refine XS.istore X0.here hx rfl (hb hby at_2) rfl (l' := #[.val (.int p1), .val (.int p2), .val (.int p3), .val (.int p4), .val (.int (p1.toInt8.toInt32)), .unset, .unset, .unset, .unset, .unset, .unset, .unset, .unset]) rfl ?_
      show Steps p.tables e below (s₁.setTop (mkF m 4 #[.val (.int p1), .val (.int p2), .val (.int p3), .val (.int p4), .val (.int (p1.toInt8.toInt32)), .unset, .unset, .unset, .unset, .unset, .unset, .unset, .unset] [])) _
      refine XS.iloadN X0.here hx rfl (hb hby at_4) rfl ?_
      show Steps p.tables e below (s₁.setTop (mkF m 5 #[.val (.int p1), .val (.int p2), .val (.int p3), .val (.int p4), .val (.int (p1.toInt8.toInt32)), .unset, .unset, .unset, .unset, .unset, .unset, .unset, .unset] [(.int p1)])) _
      refine XS.bipush X0.here hx rfl (hb hby at_5) ?_
      show Steps p.tables e below (s₁.setTop (mkF m 7 #[.val (.int p1), .val (.int p2), .val (.int p3), .val (.int p4), .val (.int (p1.toInt8.toInt32)), .unset, .unset, .unset, .unset, .unset, .unset, .unset, .unset] [(.int (8 : Int32)), (.int p1)])) _
      refine XS.iushr X0.here hx rfl (hb hby at_7) rfl ?_
      show Steps p.tables e below (s₁.setTop (mkF m 8 #[.val (.int p1), .val (.int p2), .val (.int p3), .val (.int p4), .val (.int (p1.toInt8.toInt32)), .unset, .unset, .unset, .unset, .unset, .unset, .unset, .unset] [(.int ((p1.toUInt32 >>> ((8 : Int32) &&& 31).toUInt32).toInt32))])) _
      refine XS.i2b X0.here hx rfl (hb hby at_8) rfl ?_
      show Steps p.tables e below (s₁.setTop (mkF m 9 #[.val (.int p1), .val (.int p2), .val (.int p3), .val (.int p4), .val (.int (p1.toInt8.toInt32)), .unset, .unset, .unset, .unset, .unset, .unset, .unset, .unset] [(.int (((p1.toUInt32 >>> ((8 : Int32) &&& 31).toUInt32).toInt32).toInt8.toInt32))])) _
      refine XS.istore X0.here hx rfl (hb hby at_9) rfl (l' := #[.val (.int p1), .val (.int p2), .val (.int p3), .val (.int p4), .val (.int (p1.toInt8.toInt32)), .val (.int (((p1.toUInt32 >>> ((8 : Int32) &&& 31).toUInt32).toInt32).toInt8.toInt32)), .unset, .unset, .unset, .unset, .unset, .unset, .unset]) rfl ?_
      show Steps p.tables e below (s₁.setTop (mkF m 11 #[.val (.int p1), .val (.int p2), .val (.int p3), .val (.int p4), .val (.int (p1.toInt8.toInt32)), .val (.int (((p1.toUInt32 >>> ((8 : Int32) &&& 31).toUInt32).toInt32).toInt8.toInt32)), .unset, .unset, .unset, .unset, .unset, .unset, .unset] [])) _
      refine XS.iloadN X0.here hx rfl (hb hby at_11) rfl ?_
      show Steps p.tables e below (s₁.setTop (mkF m 12 #[.val (.int p1), .val (.int p2), .val (.int p3), .val (.int p4), .val (.int (p1.toInt8.toInt32)), .val (.int (((p1.toUInt32 >>> ((8 : Int32) &&& 31).toUInt32).toInt32).toInt8.toInt32)), .unset, .unset, .unset, .unset, .unset, .unset, .unset] [(.int p3)])) _
      refine XS.bipush X0.here hx rfl (hb hby at_12) ?_
      show Steps p.tables e below (s₁.setTop (mkF m 14 #[.val (.int p1), .val (.int p2), .val (.int p3), .val (.int p4), .val (.int (p1.toInt8.toInt32)), .val (.int (((p1.toUInt32 >>> ((8 : Int32) &&& 31).toUInt32).toInt32).toInt8.toInt32)), .unset, .unset, .unset, .unset, .unset, .unset, .unset] [(.int (7 : Int32)), (.int p3)])) _
      refine XS.iand X0.here hx rfl (hb hby at_14) rfl ?_
      show Steps p.tables e below (s₁.setTop (mkF m 15 #[.val (.int p1), .val (.int p2), .val (.int p3), .val (.int p4), .val (.int (p1.toInt8.toInt32)), .val (.int (((p1.toUInt32 >>> ((8 : Int32) &&& 31).toUInt32).toInt32).toInt8.toInt32)), .unset, .unset, .unset, .unset, .unset, .unset, .unset] [(.int (p3 &&& (7 : Int32)))])) _
      refine XS.istore X0.here hx rfl (hb hby at_15) rfl (l' := #[.val (.int p1), .val (.int p2), .val (.int p3), .val (.int p4), .val (.int (p1.toInt8.toInt32)), .val (.int (((p1.toUInt32 >>> ((8 : Int32) &&& 31).toUInt32).toInt32).toInt8.toInt32)), .val (.int (p3 &&& (7 : Int32))), .unset, .unset, .unset, .unset, .unset, .unset]) rfl ?_
      show Steps p.tables e below (s₁.setTop (mkF m 17 #[.val (.int p1), .val (.int p2), .val (.int p3), .val (.int p4), .val (.int (p1.toInt8.toInt32)), .val (.int (((p1.toUInt32 >>> ((8 : Int32) &&& 31).toUInt32).toInt32).toInt8.toInt32)), .val (.int (p3 &&& (7 : Int32))), .unset, .unset, .unset, .unset, .unset, .unset] [])) _
      refine XS.iloadN X0.here hx rfl (hb hby at_17) rfl ?_
      show Steps p.tables e below (s₁.setTop (mkF m 18 #[.val (.int p1), .val (.int p2), .val (.int p3), .val (.int p4), .val (.int (p1.toInt8.toInt32)), .val (.int (((p1.toUInt32 >>> ((8 : Int32) &&& 31).toUInt32).toInt32).toInt8.toInt32)), .val (.int (p3 &&& (7 : Int32))), .unset, .unset, .unset, .unset, .unset, .unset] [(.int p3)])) _
      refine XS.iconst X0.here hx rfl (hb hby at_18) ?_
      show Steps p.tables e below (s₁.setTop (mkF m 19 #[.val (.int p1), .val (.int p2), .val (.int p3), .val (.int p4), .val (.int (p1.toInt8.toInt32)), .val (.int (((p1.toUInt32 >>> ((8 : Int32) &&& 31).toUInt32).toInt32).toInt8.toInt32)), .val (.int (p3 &&& (7 : Int32))), .unset, .unset, .unset, .unset, .unset, .unset] [(.int (3 : Int32)), (.int p3)])) _
      refine XS.iushr X0.here hx rfl (hb hby at_19) rfl ?_
      show Steps p.tables e below (s₁.setTop (mkF m 20 #[.val (.int p1), .val (.int p2), .val (.int p3), .val (.int p4), .val (.int (p1.toInt8.toInt32)), .val (.int (((p1.toUInt32 >>> ((8 : Int32) &&& 31).toUInt32).toInt32).toInt8.toInt32)), .val (.int (p3 &&& (7 : Int32))), .unset, .unset, .unset, .unset, .unset, .unset] [(.int ((p3.toUInt32 >>> ((3 : Int32) &&& 31).toUInt32).toInt32))])) _
      refine XS.iconst X0.here hx rfl (hb hby at_20) ?_
      show Steps p.tables e below (s₁.setTop (mkF m 21 #[.val (.int p1), .val (.int p2), .val (.int p3), .val (.int p4), .val (.int (p1.toInt8.toInt32)), .val (.int (((p1.toUInt32 >>> ((8 : Int32) &&& 31).toUInt32).toInt32).toInt8.toInt32)), .val (.int (p3 &&& (7 : Int32))), .unset, .unset, .unset, .unset, .unset, .unset] [(.int (3 : Int32)), (.int ((p3.toUInt32 >>> ((3 : Int32) &&& 31).toUInt32).toInt32))])) _
      refine XS.iand X0.here hx rfl (hb hby at_21) rfl ?_
      show Steps p.tables e below (s₁.setTop (mkF m 22 #[.val (.int p1), .val (.int p2), .val (.int p3), .val (.int p4), .val (.int (p1.toInt8.toInt32)), .val (.int (((p1.toUInt32 >>> ((8 : Int32) &&& 31).toUInt32).toInt32).toInt8.toInt32)), .val (.int (p3 &&& (7 : Int32))), .unset, .unset, .unset, .unset, .unset, .unset] [(.int (((p3.toUInt32 >>> ((3 : Int32) &&& 31).toUInt32).toInt32) &&& (3 : Int32)))])) _
      refine XS.istore X0.here hx rfl (hb hby at_22) rfl (l' := #[.val (.int p1), .val (.int p2), .val (.int p3), .val (.int p4), .val (.int (p1.toInt8.toInt32)), .val (.int (((p1.toUInt32 >>> ((8 : Int32) &&& 31).toUInt32).toInt32).toInt8.toInt32)), .val (.int (p3 &&& (7 : Int32))), .val (.int (((p3.toUInt32 >>> ((3 : Int32) &&& 31).toUInt32).toInt32) &&& (3 : Int32))), .unset, .unset, .unset, .unset, .unset]) rfl ?_
      show Steps p.tables e below (s₁.setTop (mkF m 24 #[.val (.int p1), .val (.int p2), .val (.int p3), .val (.int p4), .val (.int (p1.toInt8.toInt32)), .val (.int (((p1.toUInt32 >>> ((8 : Int32) &&& 31).toUInt32).toInt32).toInt8.toInt32)), .val (.int (p3 &&& (7 : Int32))), .val (.int (((p3.toUInt32 >>> ((3 : Int32) &&& 31).toUInt32).toInt32) &&& (3 : Int32))), .unset, .unset, .unset, .unset, .unset] [])) _
      refine XS.iloadN X0.here hx rfl (hb hby at_24) rfl ?_
      show Steps p.tables e below (s₁.setTop (mkF m 25 #[.val (.int p1), .val (.int p2), .val (.int p3), .val (.int p4), .val (.int (p1.toInt8.toInt32)), .val (.int (((p1.toUInt32 >>> ((8 : Int32) &&& 31).toUInt32).toInt32).toInt8.toInt32)), .val (.int (p3 &&& (7 : Int32))), .val (.int (((p3.toUInt32 >>> ((3 : Int32) &&& 31).toUInt32).toInt32) &&& (3 : Int32))), .unset, .unset, .unset, .unset, .unset] [(.int p4)])) _
      refine Jvm.Stand.ldcI X0 hx hown (mvT hZ (hw _ (List.mem_of_getElem? (i := 0) rfl))) rfl (hb hby at_25) ?_
      show Steps p.tables e below (s₁.setTop (mkF m 27 #[.val (.int p1), .val (.int p2), .val (.int p3), .val (.int p4), .val (.int (p1.toInt8.toInt32)), .val (.int (((p1.toUInt32 >>> ((8 : Int32) &&& 31).toUInt32).toInt32).toInt8.toInt32)), .val (.int (p3 &&& (7 : Int32))), .val (.int (((p3.toUInt32 >>> ((3 : Int32) &&& 31).toUInt32).toInt32) &&& (3 : Int32))), .unset, .unset, .unset, .unset, .unset] [(.int (2147483647 : Int32)), (.int p4)])) _
      refine XS.iand X0.here hx rfl (hb hby at_27) rfl ?_
      show Steps p.tables e below (s₁.setTop (mkF m 28 #[.val (.int p1), .val (.int p2), .val (.int p3), .val (.int p4), .val (.int (p1.toInt8.toInt32)), .val (.int (((p1.toUInt32 >>> ((8 : Int32) &&& 31).toUInt32).toInt32).toInt8.toInt32)), .val (.int (p3 &&& (7 : Int32))), .val (.int (((p3.toUInt32 >>> ((3 : Int32) &&& 31).toUInt32).toInt32) &&& (3 : Int32))), .unset, .unset, .unset, .unset, .unset] [(.int (p4 &&& (2147483647 : Int32)))])) _
      refine XS.bipush X0.here hx rfl (hb hby at_28) ?_
      show Steps p.tables e below (s₁.setTop (mkF m 30 #[.val (.int p1), .val (.int p2), .val (.int p3), .val (.int p4), .val (.int (p1.toInt8.toInt32)), .val (.int (((p1.toUInt32 >>> ((8 : Int32) &&& 31).toUInt32).toInt32).toInt8.toInt32)), .val (.int (p3 &&& (7 : Int32))), .val (.int (((p3.toUInt32 >>> ((3 : Int32) &&& 31).toUInt32).toInt32) &&& (3 : Int32))), .unset, .unset, .unset, .unset, .unset] [(.int (10 : Int32)), (.int (p4 &&& (2147483647 : Int32)))])) _
      refine iremM X0 hx rfl (hb hby at_30) rfl (by decide) ?_
      show Steps p.tables e below (s₁.setTop (mkF m 31 #[.val (.int p1), .val (.int p2), .val (.int p3), .val (.int p4), .val (.int (p1.toInt8.toInt32)), .val (.int (((p1.toUInt32 >>> ((8 : Int32) &&& 31).toUInt32).toInt32).toInt8.toInt32)), .val (.int (p3 &&& (7 : Int32))), .val (.int (((p3.toUInt32 >>> ((3 : Int32) &&& 31).toUInt32).toInt32) &&& (3 : Int32))), .unset, .unset, .unset, .unset, .unset] [(.int ((p4 &&& (2147483647 : Int32)) % (10 : Int32)))])) _
      refine XS.istore X0.here hx rfl (hb hby at_31) rfl (l' := #[.val (.int p1), .val (.int p2), .val (.int p3), .val (.int p4), .val (.int (p1.toInt8.toInt32)), .val (.int (((p1.toUInt32 >>> ((8 : Int32) &&& 31).toUInt32).toInt32).toInt8.toInt32)), .val (.int (p3 &&& (7 : Int32))), .val (.int (((p3.toUInt32 >>> ((3 : Int32) &&& 31).toUInt32).toInt32) &&& (3 : Int32))), .val (.int ((p4 &&& (2147483647 : Int32)) % (10 : Int32))), .unset, .unset, .unset, .unset]) rfl ?_
      show Steps p.tables e below (s₁.setTop (mkF m 33 #[.val (.int p1), .val (.int p2), .val (.int p3), .val (.int p4), .val (.int (p1.toInt8.toInt32)), .val (.int (((p1.toUInt32 >>> ((8 : Int32) &&& 31).toUInt32).toInt32).toInt8.toInt32)), .val (.int (p3 &&& (7 : Int32))), .val (.int (((p3.toUInt32 >>> ((3 : Int32) &&& 31).toUInt32).toInt32) &&& (3 : Int32))), .val (.int ((p4 &&& (2147483647 : Int32)) % (10 : Int32))), .unset, .unset, .unset, .unset] [])) _
      exact k)
  have q278 : ∀ t, Steps p.tables e below (s₁.setTop (mkF m 33 #[.val (.int p1), .val (.int p2), .val (.int p3), .val (.int p4), .val (.int (p1.toInt8.toInt32)), .val (.int (((p1.toUInt32 >>> ((8 : Int32) &&& 31).toUInt32).toInt32).toInt8.toInt32)), .val (.int (p3 &&& (7 : Int32))), .val (.int (((p3.toUInt32 >>> ((3 : Int32) &&& 31).toUInt32).toInt32) &&& (3 : Int32))), .val (.int (Int32.ofNat o)), .unset, .unset, .unset, .unset] [])) t → Steps p.tables e below (s₁.setTop (entryFrame m #[(.int p1), (.int p2), (.int p3), (.int p4)] maxLocals)) t := fun t k => q277 t (by rw [show ((p4 &&& (2147483647 : Int32)) % (10 : Int32)) = (Int32.ofNat o) from (eO).symm]; exact k)
  have q279 : ∀ t, Steps p.tables e below (s₁.setTop (mkF m 33 #[.val (.int p1), .val (.int p2), .val (.int p3), .val (.int p4), .val (.int (p1.toInt8.toInt32)), .val (.int (((p1.toUInt32 >>> ((8 : Int32) &&& 31).toUInt32).toInt32).toInt8.toInt32)), .val (.int (p3 &&& (7 : Int32))), .val (.int (Int32.ofNat mm)), .val (.int (Int32.ofNat o)), .unset, .unset, .unset, .unset] [])) t → Steps p.tables e below (s₁.setTop (entryFrame m #[(.int p1), (.int p2), (.int p3), (.int p4)] maxLocals)) t := fun t k => q278 t (by rw [show (((p3.toUInt32 >>> ((3 : Int32) &&& 31).toUInt32).toInt32) &&& (3 : Int32)) = (Int32.ofNat mm) from (eM).symm]; exact k)
  have q280 : ∀ t, Steps p.tables e below (s₁.setTop (mkF m 33 #[.val (.int p1), .val (.int p2), .val (.int p3), .val (.int p4), .val (.int (p1.toInt8.toInt32)), .val (.int (((p1.toUInt32 >>> ((8 : Int32) &&& 31).toUInt32).toInt32).toInt8.toInt32)), .val (.int (Int32.ofNat n)), .val (.int (Int32.ofNat mm)), .val (.int (Int32.ofNat o)), .unset, .unset, .unset, .unset] [])) t → Steps p.tables e below (s₁.setTop (entryFrame m #[(.int p1), (.int p2), (.int p3), (.int p4)] maxLocals)) t := fun t k => q279 t (by rw [show (p3 &&& (7 : Int32)) = (Int32.ofNat n) from (eN).symm]; exact k)
  have q281 : ∀ t, Steps p.tables e below (s₁.setTop (mkF m 35 #[.val (.int p1), .val (.int p2), .val (.int p3), .val (.int p4), .val (.int (p1.toInt8.toInt32)), .val (.int (((p1.toUInt32 >>> ((8 : Int32) &&& 31).toUInt32).toInt32).toInt8.toInt32)), .val (.int (Int32.ofNat n)), .val (.int (Int32.ofNat mm)), .val (.int (Int32.ofNat o)), .unset, .unset, .unset, .unset] [(.int (Int32.ofNat n))])) t → Steps p.tables e below (s₁.setTop (entryFrame m #[(.int p1), (.int p2), (.int p3), (.int p4)] maxLocals)) t := fun t k => q280 t (by
      show Steps p.tables e below (s₁.setTop (mkF m 33 #[.val (.int p1), .val (.int p2), .val (.int p3), .val (.int p4), .val (.int (p1.toInt8.toInt32)), .val (.int (((p1.toUInt32 >>> ((8 : Int32) &&& 31).toUInt32).toInt32).toInt8.toInt32)), .val (.int (Int32.ofNat n)), .val (.int (Int32.ofNat mm)), .val (.int (Int32.ofNat o)), .unset, .unset, .unset, .unset] [])) _
      refine XS.iload X0.here hx rfl (hb hby at_33) rfl ?_
      show Steps p.tables e below (s₁.setTop (mkF m 35 #[.val (.int p1), .val (.int p2), .val (.int p3), .val (.int p4), .val (.int (p1.toInt8.toInt32)), .val (.int (((p1.toUInt32 >>> ((8 : Int32) &&& 31).toUInt32).toInt32).toInt8.toInt32)), .val (.int (Int32.ofNat n)), .val (.int (Int32.ofNat mm)), .val (.int (Int32.ofNat o)), .unset, .unset, .unset, .unset] [(.int (Int32.ofNat n))])) _
      exact k)
  obtain ⟨T282, h282, k282, X282, e282, E282, A282, st282⟩ := newP X0 hx hZ (hw _ (List.mem_of_getElem? (i := 1) rfl)) e0 (g := (mkF m 35 #[.val (.int p1), .val (.int p2), .val (.int p3), .val (.int p4), .val (.int (p1.toInt8.toInt32)), .val (.int (((p1.toUInt32 >>> ((8 : Int32) &&& 31).toUInt32).toInt32).toInt8.toInt32)), .val (.int (Int32.ofNat n)), .val (.int (Int32.ofNat mm)), .val (.int (Int32.ofNat o)), .unset, .unset, .unset, .unset] [(.int (Int32.ofNat n))])) rfl (hb hby at_35) rfl (own_neg (by omega)) (cap := 7) (by rw [own_n32 (by omega)]; exact hn) (by decide) (by decide) (by decide)
  obtain ⟨b282, g282⟩ : ∃ z, z = h0.size := ⟨_, rfl⟩
  rw [← g282] at A282 st282
  have q283 : ∀ t, Steps p.tables e below (T282.setTop (mkF m 37 #[.val (.int p1), .val (.int p2), .val (.int p3), .val (.int p4), .val (.int (p1.toInt8.toInt32)), .val (.int (((p1.toUInt32 >>> ((8 : Int32) &&& 31).toUInt32).toInt32).toInt8.toInt32)), .val (.int (Int32.ofNat n)), .val (.int (Int32.ofNat mm)), .val (.int (Int32.ofNat o)), .unset, .unset, .unset, .unset] [(.ref b282)])) t → Steps p.tables e below (s₁.setTop (entryFrame m #[(.int p1), (.int p2), (.int p3), (.int p4)] maxLocals)) t := fun t k => q281 t (st282 t k)
  have Z282 : n0 ≤ h282.size := Nat.le_trans Z0 E282.1
  have g9 : n0 ≤ b282 := Nat.le_trans Z0 (Nat.le_of_eq g282.symm)
  have B_0 : Bt Z h282 b282 (Int32.ofNat n) (fun _ => 0) := Bt.new A282 (own_neg (by omega))
  have q284 : ∀ t, Steps p.tables e below (T282.setTop (mkF m 39 #[.val (.int p1), .val (.int p2), .val (.int p3), .val (.int p4), .val (.int (p1.toInt8.toInt32)), .val (.int (((p1.toUInt32 >>> ((8 : Int32) &&& 31).toUInt32).toInt32).toInt8.toInt32)), .val (.int (Int32.ofNat n)), .val (.int (Int32.ofNat mm)), .val (.int (Int32.ofNat o)), .val (.ref b282), .unset, .unset, .unset] [])) t → Steps p.tables e below (s₁.setTop (entryFrame m #[(.int p1), (.int p2), (.int p3), (.int p4)] maxLocals)) t := fun t k => q283 t (by
      show Steps p.tables e below (T282.setTop (mkF m 37 #[.val (.int p1), .val (.int p2), .val (.int p3), .val (.int p4), .val (.int (p1.toInt8.toInt32)), .val (.int (((p1.toUInt32 >>> ((8 : Int32) &&& 31).toUInt32).toInt32).toInt8.toInt32)), .val (.int (Int32.ofNat n)), .val (.int (Int32.ofNat mm)), .val (.int (Int32.ofNat o)), .unset, .unset, .unset, .unset] [(.ref b282)])) _
      refine XS.astore X282.here hx rfl (hb hby at_37) rfl rfl (l' := #[.val (.int p1), .val (.int p2), .val (.int p3), .val (.int p4), .val (.int (p1.toInt8.toInt32)), .val (.int (((p1.toUInt32 >>> ((8 : Int32) &&& 31).toUInt32).toInt32).toInt8.toInt32)), .val (.int (Int32.ofNat n)), .val (.int (Int32.ofNat mm)), .val (.int (Int32.ofNat o)), .val (.ref b282), .unset, .unset, .unset]) rfl ?_
      show Steps p.tables e below (T282.setTop (mkF m 39 #[.val (.int p1), .val (.int p2), .val (.int p3), .val (.int p4), .val (.int (p1.toInt8.toInt32)), .val (.int (((p1.toUInt32 >>> ((8 : Int32) &&& 31).toUInt32).toInt32).toInt8.toInt32)), .val (.int (Int32.ofNat n)), .val (.int (Int32.ofNat mm)), .val (.int (Int32.ofNat o)), .val (.ref b282), .unset, .unset, .unset] [])) _
      exact k)
  obtain ⟨U0, hU0, M0, f0, Y0, w0, J0, V0, B_1, r0⟩ := sb0 (.val (.int p1)) p2 (.val (.int p3)) (.val (.int p4)) (p1.toInt8.toInt32) (((p1.toUInt32 >>> ((8 : Int32) &&& 31).toUInt32).toInt32).toInt8.toInt32) (.val (.int (Int32.ofNat mm))) (.val (.int (Int32.ofNat o))) b282 (.unset) (.unset) (.unset) n _ n0 X282 hx hZ hw hby hml hown e282 Z282 N0 g9 B_0
  have q285 : ∀ t, Steps p.tables e below (U0.setTop (mkF m 57 #[.val (.int p1), .val (.int p2), .val (.int p3), .val (.int p4), .val (.int (p1.toInt8.toInt32)), .val (.int (((p1.toUInt32 >>> ((8 : Int32) &&& 31).toUInt32).toInt32).toInt8.toInt32)), .val (.int (Int32.ofNat n)), .val (.int (Int32.ofNat mm)), .val (.int (Int32.ofNat o)), .val (.ref b282), .unset, .unset, .unset] [])) t → Steps p.tables e below (s₁.setTop (entryFrame m #[(.int p1), (.int p2), (.int p3), (.int p4)] maxLocals)) t := fun t k => q284 t (r0 t k)
  obtain ⟨U1, hU1, M1, f1, Y1, w1, J1, V1, B_2, r1⟩ := sb1 (.val (.int p1)) p2 (.val (.int p3)) (.val (.int p4)) (p1.toInt8.toInt32) (((p1.toUInt32 >>> ((8 : Int32) &&& 31).toUInt32).toInt32).toInt8.toInt32) (.val (.int (Int32.ofNat mm))) (.val (.int (Int32.ofNat o))) b282 (.unset) (.unset) (.unset) n _ n0 Y0 hx hZ hw hby hml hown w0 V0 J0 g9 B_1
  have q286 : ∀ t, Steps p.tables e below (U1.setTop (mkF m 76 #[.val (.int p1), .val (.int p2), .val (.int p3), .val (.int p4), .val (.int (p1.toInt8.toInt32)), .val (.int (((p1.toUInt32 >>> ((8 : Int32) &&& 31).toUInt32).toInt32).toInt8.toInt32)), .val (.int (Int32.ofNat n)), .val (.int (Int32.ofNat mm)), .val (.int (Int32.ofNat o)), .val (.ref b282), .unset, .unset, .unset] [])) t → Steps p.tables e below (s₁.setTop (entryFrame m #[(.int p1), (.int p2), (.int p3), (.int p4)] maxLocals)) t := fun t k => q285 t (r1 t k)
  obtain ⟨U2, hU2, M2, f2, Y2, w2, J2, V2, B_3, r2⟩ := sb2 (.val (.int p1)) p2 (.val (.int p3)) (.val (.int p4)) (p1.toInt8.toInt32) (((p1.toUInt32 >>> ((8 : Int32) &&& 31).toUInt32).toInt32).toInt8.toInt32) (.val (.int (Int32.ofNat mm))) (.val (.int (Int32.ofNat o))) b282 (.unset) (.unset) (.unset) n _ n0 Y1 hx hZ hw hby hml hown w1 V1 J1 g9 B_2
  have q287 : ∀ t, Steps p.tables e below (U2.setTop (mkF m 95 #[.val (.int p1), .val (.int p2), .val (.int p3), .val (.int p4), .val (.int (p1.toInt8.toInt32)), .val (.int (((p1.toUInt32 >>> ((8 : Int32) &&& 31).toUInt32).toInt32).toInt8.toInt32)), .val (.int (Int32.ofNat n)), .val (.int (Int32.ofNat mm)), .val (.int (Int32.ofNat o)), .val (.ref b282), .unset, .unset, .unset] [])) t → Steps p.tables e below (s₁.setTop (entryFrame m #[(.int p1), (.int p2), (.int p3), (.int p4)] maxLocals)) t := fun t k => q286 t (r2 t k)
  obtain ⟨U3, hU3, M3, f3, Y3, w3, J3, V3, B_4, r3⟩ := sb3 (.val (.int p1)) p2 (.val (.int p3)) (.val (.int p4)) (p1.toInt8.toInt32) (((p1.toUInt32 >>> ((8 : Int32) &&& 31).toUInt32).toInt32).toInt8.toInt32) (.val (.int (Int32.ofNat mm))) (.val (.int (Int32.ofNat o))) b282 (.unset) (.unset) (.unset) n _ n0 Y2 hx hZ hw hby hml hown w2 V2 J2 g9 B_3
  have q288 : ∀ t, Steps p.tables e below (U3.setTop (mkF m 114 #[.val (.int p1), .val (.int p2), .val (.int p3), .val (.int p4), .val (.int (p1.toInt8.toInt32)), .val (.int (((p1.toUInt32 >>> ((8 : Int32) &&& 31).toUInt32).toInt32).toInt8.toInt32)), .val (.int (Int32.ofNat n)), .val (.int (Int32.ofNat mm)), .val (.int (Int32.ofNat o)), .val (.ref b282), .unset, .unset, .unset] [])) t → Steps p.tables e below (s₁.setTop (entryFrame m #[(.int p1), (.int p2), (.int p3), (.int p4)] maxLocals)) t := fun t k => q287 t (r3 t k)
  obtain ⟨U4, hU4, M4, f4, Y4, w4, J4, V4, B_5, r4⟩ := sb4 (.val (.int p1)) p2 (.val (.int p3)) (.val (.int p4)) (p1.toInt8.toInt32) (((p1.toUInt32 >>> ((8 : Int32) &&& 31).toUInt32).toInt32).toInt8.toInt32) (.val (.int (Int32.ofNat mm))) (.val (.int (Int32.ofNat o))) b282 (.unset) (.unset) (.unset) n _ n0 Y3 hx hZ hw hby hml hown w3 V3 J3 g9 B_4
  have q289 : ∀ t, Steps p.tables e below (U4.setTop (mkF m 133 #[.val (.int p1), .val (.int p2), .val (.int p3), .val (.int p4), .val (.int (p1.toInt8.toInt32)), .val (.int (((p1.toUInt32 >>> ((8 : Int32) &&& 31).toUInt32).toInt32).toInt8.toInt32)), .val (.int (Int32.ofNat n)), .val (.int (Int32.ofNat mm)), .val (.int (Int32.ofNat o)), .val (.ref b282), .unset, .unset, .unset] [])) t → Steps p.tables e below (s₁.setTop (entryFrame m #[(.int p1), (.int p2), (.int p3), (.int p4)] maxLocals)) t := fun t k => q288 t (r4 t k)
  obtain ⟨U5, hU5, M5, f5, Y5, w5, J5, V5, B_6, r5⟩ := sb5 (.val (.int p1)) p2 (.val (.int p3)) (.val (.int p4)) (p1.toInt8.toInt32) (((p1.toUInt32 >>> ((8 : Int32) &&& 31).toUInt32).toInt32).toInt8.toInt32) (.val (.int (Int32.ofNat mm))) (.val (.int (Int32.ofNat o))) b282 (.unset) (.unset) (.unset) n _ n0 Y4 hx hZ hw hby hml hown w4 V4 J4 g9 B_5
  have q290 : ∀ t, Steps p.tables e below (U5.setTop (mkF m 152 #[.val (.int p1), .val (.int p2), .val (.int p3), .val (.int p4), .val (.int (p1.toInt8.toInt32)), .val (.int (((p1.toUInt32 >>> ((8 : Int32) &&& 31).toUInt32).toInt32).toInt8.toInt32)), .val (.int (Int32.ofNat n)), .val (.int (Int32.ofNat mm)), .val (.int (Int32.ofNat o)), .val (.ref b282), .unset, .unset, .unset] [])) t → Steps p.tables e below (s₁.setTop (entryFrame m #[(.int p1), (.int p2), (.int p3), (.int p4)] maxLocals)) t := fun t k => q289 t (r5 t k)
  obtain ⟨U6, hU6, M6, f6, Y6, w6, J6, V6, B_7, r6⟩ := sb6 (.val (.int p1)) p2 (.val (.int p3)) (.val (.int p4)) (p1.toInt8.toInt32) (((p1.toUInt32 >>> ((8 : Int32) &&& 31).toUInt32).toInt32).toInt8.toInt32) (.val (.int (Int32.ofNat mm))) (.val (.int (Int32.ofNat o))) b282 (.unset) (.unset) (.unset) n _ n0 Y5 hx hZ hw hby hml hown w5 V5 J5 g9 B_6
  have q291 : ∀ t, Steps p.tables e below (U6.setTop (mkF m 174 #[.val (.int p1), .val (.int p2), .val (.int p3), .val (.int p4), .val (.int (p1.toInt8.toInt32)), .val (.int (((p1.toUInt32 >>> ((8 : Int32) &&& 31).toUInt32).toInt32).toInt8.toInt32)), .val (.int (Int32.ofNat n)), .val (.int (Int32.ofNat mm)), .val (.int (Int32.ofNat o)), .val (.ref b282), .unset, .unset, .unset] [])) t → Steps p.tables e below (s₁.setTop (entryFrame m #[(.int p1), (.int p2), (.int p3), (.int p4)] maxLocals)) t := fun t k => q290 t (r6 t k)
  have q292 : ∀ t, Steps p.tables e below (U6.setTop (mkF m 176 #[.val (.int p1), .val (.int p2), .val (.int p3), .val (.int p4), .val (.int (p1.toInt8.toInt32)), .val (.int (((p1.toUInt32 >>> ((8 : Int32) &&& 31).toUInt32).toInt32).toInt8.toInt32)), .val (.int (Int32.ofNat n)), .val (.int (Int32.ofNat mm)), .val (.int (Int32.ofNat o)), .val (.ref b282), .unset, .unset, .unset] [(.int (Int32.ofNat mm))])) t → Steps p.tables e below (s₁.setTop (entryFrame m #[(.int p1), (.int p2), (.int p3), (.int p4)] maxLocals)) t := fun t k => q291 t (by
      show Steps p.tables e below (U6.setTop (mkF m 174 #[.val (.int p1), .val (.int p2), .val (.int p3), .val (.int p4), .val (.int (p1.toInt8.toInt32)), .val (.int (((p1.toUInt32 >>> ((8 : Int32) &&& 31).toUInt32).toInt32).toInt8.toInt32)), .val (.int (Int32.ofNat n)), .val (.int (Int32.ofNat mm)), .val (.int (Int32.ofNat o)), .val (.ref b282), .unset, .unset, .unset] [])) _
      refine XS.iload Y6.here hx rfl (hb hby at_174) rfl ?_
      show Steps p.tables e below (U6.setTop (mkF m 176 #[.val (.int p1), .val (.int p2), .val (.int p3), .val (.int p4), .val (.int (p1.toInt8.toInt32)), .val (.int (((p1.toUInt32 >>> ((8 : Int32) &&& 31).toUInt32).toInt32).toInt8.toInt32)), .val (.int (Int32.ofNat n)), .val (.int (Int32.ofNat mm)), .val (.int (Int32.ofNat o)), .val (.ref b282), .unset, .unset, .unset] [(.int (Int32.ofNat mm))])) _
      exact k)
  obtain ⟨T293, h293, k293, X293, e293, E293, A293, st293⟩ := newP Y6 hx hZ (hw _ (List.mem_of_getElem? (i := 1) rfl)) w6 (g := (mkF m 176 #[.val (.int p1), .val (.int p2), .val (.int p3), .val (.int p4), .val (.int (p1.toInt8.toInt32)), .val (.int (((p1.toUInt32 >>> ((8 : Int32) &&& 31).toUInt32).toInt32).toInt8.toInt32)), .val (.int (Int32.ofNat n)), .val (.int (Int32.ofNat mm)), .val (.int (Int32.ofNat o)), .val (.ref b282), .unset, .unset, .unset] [(.int (Int32.ofNat mm))])) rfl (hb hby at_176) rfl (own_neg (by omega)) (cap := 3) (by rw [own_n32 (by omega)]; exact hm) (by decide) (by decide) (by decide)
  obtain ⟨b293, g293⟩ : ∃ z, z = hU6.size := ⟨_, rfl⟩
  rw [← g293] at A293 st293
  have q294 : ∀ t, Steps p.tables e below (T293.setTop (mkF m 178 #[.val (.int p1), .val (.int p2), .val (.int p3), .val (.int p4), .val (.int (p1.toInt8.toInt32)), .val (.int (((p1.toUInt32 >>> ((8 : Int32) &&& 31).toUInt32).toInt32).toInt8.toInt32)), .val (.int (Int32.ofNat n)), .val (.int (Int32.ofNat mm)), .val (.int (Int32.ofNat o)), .val (.ref b282), .unset, .unset, .unset] [(.ref b293)])) t → Steps p.tables e below (s₁.setTop (entryFrame m #[(.int p1), (.int p2), (.int p3), (.int p4)] maxLocals)) t := fun t k => q292 t (st293 t k)
  have Z293 : n0 ≤ h293.size := Nat.le_trans V6 E293.1
  have g10 : n0 ≤ b293 := Nat.le_trans V6 (Nat.le_of_eq g293.symm)
  have ne : b282 ≠ b293 := Nat.ne_of_lt (Nat.lt_of_lt_of_le B_7.lt (Nat.le_of_eq g293.symm))
  have Bf_0 := B_7.ext E293
  have Bg_0 : Bt Z h293 b293 (Int32.ofNat mm) (fun _ => 0) := Bt.new A293 (own_neg (by omega))
  have q295 : ∀ t, Steps p.tables e below (T293.setTop (mkF m 180 #[.val (.int p1), .val (.int p2), .val (.int p3), .val (.int p4), .val (.int (p1.toInt8.toInt32)), .val (.int (((p1.toUInt32 >>> ((8 : Int32) &&& 31).toUInt32).toInt32).toInt8.toInt32)), .val (.int (Int32.ofNat n)), .val (.int (Int32.ofNat mm)), .val (.int (Int32.ofNat o)), .val (.ref b282), .val (.ref b293), .unset, .unset] [])) t → Steps p.tables e below (s₁.setTop (entryFrame m #[(.int p1), (.int p2), (.int p3), (.int p4)] maxLocals)) t := fun t k => q294 t (by
      show Steps p.tables e below (T293.setTop (mkF m 178 #[.val (.int p1), .val (.int p2), .val (.int p3), .val (.int p4), .val (.int (p1.toInt8.toInt32)), .val (.int (((p1.toUInt32 >>> ((8 : Int32) &&& 31).toUInt32).toInt32).toInt8.toInt32)), .val (.int (Int32.ofNat n)), .val (.int (Int32.ofNat mm)), .val (.int (Int32.ofNat o)), .val (.ref b282), .unset, .unset, .unset] [(.ref b293)])) _
      refine XS.astore X293.here hx rfl (hb hby at_178) rfl rfl (l' := #[.val (.int p1), .val (.int p2), .val (.int p3), .val (.int p4), .val (.int (p1.toInt8.toInt32)), .val (.int (((p1.toUInt32 >>> ((8 : Int32) &&& 31).toUInt32).toInt32).toInt8.toInt32)), .val (.int (Int32.ofNat n)), .val (.int (Int32.ofNat mm)), .val (.int (Int32.ofNat o)), .val (.ref b282), .val (.ref b293), .unset, .unset]) rfl ?_
      show Steps p.tables e below (T293.setTop (mkF m 180 #[.val (.int p1), .val (.int p2), .val (.int p3), .val (.int p4), .val (.int (p1.toInt8.toInt32)), .val (.int (((p1.toUInt32 >>> ((8 : Int32) &&& 31).toUInt32).toInt32).toInt8.toInt32)), .val (.int (Int32.ofNat n)), .val (.int (Int32.ofNat mm)), .val (.int (Int32.ofNat o)), .val (.ref b282), .val (.ref b293), .unset, .unset] [])) _
      exact k)
  obtain ⟨UU0, hUU0, MM0, gg0, YY0, ww0, JJ0, VV0, Bf_1, Bg_1, rr0⟩ := ss0 (.val (.int p1)) p2 (.val (.int p3)) (.val (.int p4)) (p1.toInt8.toInt32) (((p1.toUInt32 >>> ((8 : Int32) &&& 31).toUInt32).toInt32).toInt8.toInt32) (.val (.int (Int32.ofNat n))) (.val (.int (Int32.ofNat o))) b282 b293 (.unset) (.unset) n mm _ _ n0 X293 hx hZ hw hby hml hown e293 Z293 J6 g10 ne Bf_0 Bg_0
  have q296 : ∀ t, Steps p.tables e below (UU0.setTop (mkF m 199 #[.val (.int p1), .val (.int p2), .val (.int p3), .val (.int p4), .val (.int (p1.toInt8.toInt32)), .val (.int (((p1.toUInt32 >>> ((8 : Int32) &&& 31).toUInt32).toInt32).toInt8.toInt32)), .val (.int (Int32.ofNat n)), .val (.int (Int32.ofNat mm)), .val (.int (Int32.ofNat o)), .val (.ref b282), .val (.ref b293), .unset, .unset] [])) t → Steps p.tables e below (s₁.setTop (entryFrame m #[(.int p1), (.int p2), (.int p3), (.int p4)] maxLocals)) t := fun t k => q295 t (rr0 t k)
  obtain ⟨UU1, hUU1, MM1, gg1, YY1, ww1, JJ1, VV1, Bf_2, Bg_2, rr1⟩ := ss1 (.val (.int p1)) p2 (.val (.int p3)) (.val (.int p4)) (p1.toInt8.toInt32) (((p1.toUInt32 >>> ((8 : Int32) &&& 31).toUInt32).toInt32).toInt8.toInt32) (.val (.int (Int32.ofNat n))) (.val (.int (Int32.ofNat o))) b282 b293 (.unset) (.unset) n mm _ _ n0 YY0 hx hZ hw hby hml hown ww0 VV0 JJ0 g10 ne Bf_1 Bg_1
  have q297 : ∀ t, Steps p.tables e below (UU1.setTop (mkF m 219 #[.val (.int p1), .val (.int p2), .val (.int p3), .val (.int p4), .val (.int (p1.toInt8.toInt32)), .val (.int (((p1.toUInt32 >>> ((8 : Int32) &&& 31).toUInt32).toInt32).toInt8.toInt32)), .val (.int (Int32.ofNat n)), .val (.int (Int32.ofNat mm)), .val (.int (Int32.ofNat o)), .val (.ref b282), .val (.ref b293), .unset, .unset] [])) t → Steps p.tables e below (s₁.setTop (entryFrame m #[(.int p1), (.int p2), (.int p3), (.int p4)] maxLocals)) t := fun t k => q296 t (rr1 t k)
  obtain ⟨UU2, hUU2, MM2, gg2, YY2, ww2, JJ2, VV2, Bf_3, Bg_3, rr2⟩ := ss2 (.val (.int p1)) p2 (.val (.int p3)) (.val (.int p4)) (p1.toInt8.toInt32) (((p1.toUInt32 >>> ((8 : Int32) &&& 31).toUInt32).toInt32).toInt8.toInt32) (.val (.int (Int32.ofNat n))) (.val (.int (Int32.ofNat o))) b282 b293 (.unset) (.unset) n mm _ _ n0 YY1 hx hZ hw hby hml hown ww1 VV1 JJ1 g10 ne Bf_2 Bg_2
  have q298 : ∀ t, Steps p.tables e below (UU2.setTop (mkF m 239 #[.val (.int p1), .val (.int p2), .val (.int p3), .val (.int p4), .val (.int (p1.toInt8.toInt32)), .val (.int (((p1.toUInt32 >>> ((8 : Int32) &&& 31).toUInt32).toInt32).toInt8.toInt32)), .val (.int (Int32.ofNat n)), .val (.int (Int32.ofNat mm)), .val (.int (Int32.ofNat o)), .val (.ref b282), .val (.ref b293), .unset, .unset] [])) t → Steps p.tables e below (s₁.setTop (entryFrame m #[(.int p1), (.int p2), (.int p3), (.int p4)] maxLocals)) t := fun t k => q297 t (rr2 t k)
  obtain ⟨f, cl1, Ar1, S1, H1⟩ : ∃ (f : Nat → Int32) (cl : Cell), Arr Z hUU2 b282 cl .byte ∧ cl.slots.size = n ∧ (∀ i, i < cl.slots.size → cl.slots[i]? = some (.int (f i))) := by
    obtain ⟨cl, Ar, S, -, H⟩ := Bf_3
    exact ⟨_, cl, Ar, by rw [S, own_n32 (by omega)], H⟩
  obtain ⟨g, cl2, Ar2, S2, H2⟩ : ∃ (g : Nat → Int32) (cl : Cell), Arr Z hUU2 b293 cl .byte ∧ cl.slots.size = mm ∧ (∀ i, i < cl.slots.size → cl.slots[i]? = some (.int (g i))) := by
    obtain ⟨cl, Ar, S, -, H⟩ := Bg_3
    exact ⟨_, cl, Ar, by rw [S, own_n32 (by omega)], H⟩
  have q299 : ∀ t, Steps p.tables e below (UU2.setTop (mkF m 242 #[.val (.int p1), .val (.int p2), .val (.int p3), .val (.int p4), .val (.int (p1.toInt8.toInt32)), .val (.int (((p1.toUInt32 >>> ((8 : Int32) &&& 31).toUInt32).toInt32).toInt8.toInt32)), .val (.int (Int32.ofNat n)), .val (.int (Int32.ofNat mm)), .val (.int (Int32.ofNat o)), .val (.ref b282), .val (.ref b293), .val (.int (-1 : Int32)), .unset] [])) t → Steps p.tables e below (s₁.setTop (entryFrame m #[(.int p1), (.int p2), (.int p3), (.int p4)] maxLocals)) t := fun t k => q298 t (by
      show Steps p.tables e below (UU2.setTop (mkF m 239 #[.val (.int p1), .val (.int p2), .val (.int p3), .val (.int p4), .val (.int (p1.toInt8.toInt32)), .val (.int (((p1.toUInt32 >>> ((8 : Int32) &&& 31).toUInt32).toInt32).toInt8.toInt32)), .val (.int (Int32.ofNat n)), .val (.int (Int32.ofNat mm)), .val (.int (Int32.ofNat o)), .val (.ref b282), .val (.ref b293), .unset, .unset] [])) _
      refine XS.iconst YY2.here hx rfl (hb hby at_239) ?_
      show Steps p.tables e below (UU2.setTop (mkF m 240 #[.val (.int p1), .val (.int p2), .val (.int p3), .val (.int p4), .val (.int (p1.toInt8.toInt32)), .val (.int (((p1.toUInt32 >>> ((8 : Int32) &&& 31).toUInt32).toInt32).toInt8.toInt32)), .val (.int (Int32.ofNat n)), .val (.int (Int32.ofNat mm)), .val (.int (Int32.ofNat o)), .val (.ref b282), .val (.ref b293), .unset, .unset] [(.int (-1 : Int32))])) _
      refine XS.istore YY2.here hx rfl (hb hby at_240) rfl (l' := #[.val (.int p1), .val (.int p2), .val (.int p3), .val (.int p4), .val (.int (p1.toInt8.toInt32)), .val (.int (((p1.toUInt32 >>> ((8 : Int32) &&& 31).toUInt32).toInt32).toInt8.toInt32)), .val (.int (Int32.ofNat n)), .val (.int (Int32.ofNat mm)), .val (.int (Int32.ofNat o)), .val (.ref b282), .val (.ref b293), .val (.int (-1 : Int32)), .unset]) rfl ?_
      show Steps p.tables e below (UU2.setTop (mkF m 242 #[.val (.int p1), .val (.int p2), .val (.int p3), .val (.int p4), .val (.int (p1.toInt8.toInt32)), .val (.int (((p1.toUInt32 >>> ((8 : Int32) &&& 31).toUInt32).toInt32).toInt8.toInt32)), .val (.int (Int32.ofNat n)), .val (.int (Int32.ofNat mm)), .val (.int (Int32.ofNat o)), .val (.ref b282), .val (.ref b293), .val (.int (-1 : Int32)), .unset] [])) _
      exact k)
  obtain ⟨UA, MA, zA, YA, fA, JA, hA, rA⟩ := small (.val (.int p1)) (.val (.int p2)) (.val (.int p3)) (.val (.int p4)) (.val (.int (p1.toInt8.toInt32))) (.val (.int (((p1.toUInt32 >>> ((8 : Int32) &&& 31).toUInt32).toInt32).toInt8.toInt32))) (.val (.int (Int32.ofNat n))) (.val (.int (Int32.ofNat mm))) (.unset) b282 b293 n mm o hn hm ho f g cl1 cl2 n0 YY2 hx hZ hw hby hml hown ww2 VV2 JJ2 Ar1 S1 H1 Ar2 S2 H2
  have q300 : ∀ t, Steps p.tables e below (UA.setTop (mkF m 428 #[.val (.int p1), .val (.int p2), .val (.int p3), .val (.int p4), .val (.int (p1.toInt8.toInt32)), .val (.int (((p1.toUInt32 >>> ((8 : Int32) &&& 31).toUInt32).toInt32).toInt8.toInt32)), .val (.int (Int32.ofNat n)), .val (.int (Int32.ofNat mm)), .val (.int (Int32.ofNat o)), .val (.ref b282), .val (.ref b293), .val (.int zA), .unset] [])) t → Steps p.tables e below (s₁.setTop (entryFrame m #[(.int p1), (.int p2), (.int p3), (.int p4)] maxLocals)) t := fun t k => q299 t (rA t k)
  have q301 : ∀ t, Steps p.tables e below (UA.setTop (mkF m 434 #[.val (.int p1), .val (.int p2), .val (.int p3), .val (.int p4), .val (.int (p1.toInt8.toInt32)), .val (.int (((p1.toUInt32 >>> ((8 : Int32) &&& 31).toUInt32).toInt32).toInt8.toInt32)), .val (.int (Int32.ofNat n)), .val (.int (Int32.ofNat mm)), .val (.int (Int32.ofNat o)), .val (.ref b282), .val (.ref b293), .val (.int zA), .unset] [(.ref b293), (.int (Int32.ofNat o)), (.ref b282)])) t → Steps p.tables e below (s₁.setTop (entryFrame m #[(.int p1), (.int p2), (.int p3), (.int p4)] maxLocals)) t := fun t k => q300 t (by
      show Steps p.tables e below (UA.setTop (mkF m 428 #[.val (.int p1), .val (.int p2), .val (.int p3), .val (.int p4), .val (.int (p1.toInt8.toInt32)), .val (.int (((p1.toUInt32 >>> ((8 : Int32) &&& 31).toUInt32).toInt32).toInt8.toInt32)), .val (.int (Int32.ofNat n)), .val (.int (Int32.ofNat mm)), .val (.int (Int32.ofNat o)), .val (.ref b282), .val (.ref b293), .val (.int zA), .unset] [])) _
      refine XS.aload YA.here hx rfl (hb hby at_428) rfl rfl ?_
      show Steps p.tables e below (UA.setTop (mkF m 430 #[.val (.int p1), .val (.int p2), .val (.int p3), .val (.int p4), .val (.int (p1.toInt8.toInt32)), .val (.int (((p1.toUInt32 >>> ((8 : Int32) &&& 31).toUInt32).toInt32).toInt8.toInt32)), .val (.int (Int32.ofNat n)), .val (.int (Int32.ofNat mm)), .val (.int (Int32.ofNat o)), .val (.ref b282), .val (.ref b293), .val (.int zA), .unset] [(.ref b282)])) _
      refine XS.iload YA.here hx rfl (hb hby at_430) rfl ?_
      show Steps p.tables e below (UA.setTop (mkF m 432 #[.val (.int p1), .val (.int p2), .val (.int p3), .val (.int p4), .val (.int (p1.toInt8.toInt32)), .val (.int (((p1.toUInt32 >>> ((8 : Int32) &&& 31).toUInt32).toInt32).toInt8.toInt32)), .val (.int (Int32.ofNat n)), .val (.int (Int32.ofNat mm)), .val (.int (Int32.ofNat o)), .val (.ref b282), .val (.ref b293), .val (.int zA), .unset] [(.int (Int32.ofNat o)), (.ref b282)])) _
      refine XS.aload YA.here hx rfl (hb hby at_432) rfl rfl ?_
      show Steps p.tables e below (UA.setTop (mkF m 434 #[.val (.int p1), .val (.int p2), .val (.int p3), .val (.int p4), .val (.int (p1.toInt8.toInt32)), .val (.int (((p1.toUInt32 >>> ((8 : Int32) &&& 31).toUInt32).toInt32).toInt8.toInt32)), .val (.int (Int32.ofNat n)), .val (.int (Int32.ofNat mm)), .val (.int (Int32.ofNat o)), .val (.ref b282), .val (.ref b293), .val (.int zA), .unset] [(.ref b293), (.int (Int32.ofNat o)), (.ref b282)])) _
      exact k)
  obtain ⟨_, _, ⟨T302, L302, kk302, nn302⟩, -, X302, ⟨Lc302, hQ302, l302, y302, z302⟩, st302⟩ := Jvm.LawKit.callS YA hx (y := (⟨"com/example/orbweaver/orbweaver/store/GzipMembers", "indexOf", "([BI[B)I"⟩ : MethodName)) hown (mvT hZ (hw _ (List.mem_of_getElem? (i := 9) rfl))) (mvT hZ (hw _ (List.mem_of_getElem? (i := 10) rfl))) (mvT hZ (hw _ (List.mem_of_getElem? (i := 11) rfl))) (mvT hZ (hw _ (List.mem_of_getElem? (i := 12) rfl))) (by decide) (backOf (W := 0) (rm6 l Z a0 hw [] b282 b293 n mm o hn hm f g cl1 cl2 hUU2 n0 VV2 ho Ar1 S1 H1 Ar2 S2 H2) hZ (hw _ (List.mem_of_getElem? (i := 12) rfl)) (hw _ (List.mem_of_getElem? (i := 11) rfl)) (by decide) (by decide)) (g := (mkF m 434 #[.val (.int p1), .val (.int p2), .val (.int p3), .val (.int p4), .val (.int (p1.toInt8.toInt32)), .val (.int (((p1.toUInt32 >>> ((8 : Int32) &&& 31).toUInt32).toInt32).toInt8.toInt32)), .val (.int (Int32.ofNat n)), .val (.int (Int32.ofNat mm)), .val (.int (Int32.ofNat o)), .val (.ref b282), .val (.ref b293), .val (.int zA), .unset] [(.ref b293), (.int (Int32.ofNat o)), (.ref b282)])) rfl (by rw [hml]; rfl) (argsL := [(.ref b282), (.int (Int32.ofNat o)), (.ref b293)]) (rest := []) (lenOf pd___BI_B_I rfl) rfl (by show 2 * 0 + _ ≤ _; exact Nat.le_of_eq rfl) (hb hby at_434) (fun _ _ => ⟨rfl, fA, (by decide : 2 + 0 ≤ _), (by decide : 10 + 0 ≤ _)⟩)
  dsimp only [Pt.U, Pt.locs, Pt.cells, Pt.slots] at X302 l302 y302 z302 st302 hQ302
  subst l302 y302 z302
  obtain ⟨rfl, Nq302, e302⟩ := hQ302
  have N302 := Fr.app JA Nq302
  have q303 : ∀ t, Steps p.tables e below (T302.setTop (mkF m 437 #[.val (.int p1), .val (.int p2), .val (.int p3), .val (.int p4), .val (.int (p1.toInt8.toInt32)), .val (.int (((p1.toUInt32 >>> ((8 : Int32) &&& 31).toUInt32).toInt32).toInt8.toInt32)), .val (.int (Int32.ofNat n)), .val (.int (Int32.ofNat mm)), .val (.int (Int32.ofNat o)), .val (.ref b282), .val (.ref b293), .val (.int zA), .unset] [(.int (own_ix f g mm (n + 1 - (o + mm)) o))])) t → Steps p.tables e below (s₁.setTop (entryFrame m #[(.int p1), (.int p2), (.int p3), (.int p4)] maxLocals)) t := fun t k => q301 t (st302 t k)
  have q304 : ∀ t, Steps p.tables e below (T302.setTop (mkF m 451 #[.val (.int p1), .val (.int p2), .val (.int p3), .val (.int p4), .val (.int (p1.toInt8.toInt32)), .val (.int (((p1.toUInt32 >>> ((8 : Int32) &&& 31).toUInt32).toInt32).toInt8.toInt32)), .val (.int (Int32.ofNat n)), .val (.int (Int32.ofNat mm)), .val (.int (Int32.ofNat o)), .val (.ref b282), .val (.ref b293), .val (.int zA), .val (.int (own_ix f g mm (n + 1 - (o + mm)) o))] [(.int (1 : Int32))])) t → Steps p.tables e below (s₁.setTop (entryFrame m #[(.int p1), (.int p2), (.int p3), (.int p4)] maxLocals)) t := fun t k => q303 t (by
      show Steps p.tables e below (T302.setTop (mkF m 437 #[.val (.int p1), .val (.int p2), .val (.int p3), .val (.int p4), .val (.int (p1.toInt8.toInt32)), .val (.int (((p1.toUInt32 >>> ((8 : Int32) &&& 31).toUInt32).toInt32).toInt8.toInt32)), .val (.int (Int32.ofNat n)), .val (.int (Int32.ofNat mm)), .val (.int (Int32.ofNat o)), .val (.ref b282), .val (.ref b293), .val (.int zA), .unset] [(.int (own_ix f g mm (n + 1 - (o + mm)) o))])) _
      refine XS.istore X302.here hx rfl (hb hby at_437) rfl (l' := #[.val (.int p1), .val (.int p2), .val (.int p3), .val (.int p4), .val (.int (p1.toInt8.toInt32)), .val (.int (((p1.toUInt32 >>> ((8 : Int32) &&& 31).toUInt32).toInt32).toInt8.toInt32)), .val (.int (Int32.ofNat n)), .val (.int (Int32.ofNat mm)), .val (.int (Int32.ofNat o)), .val (.ref b282), .val (.ref b293), .val (.int zA), .val (.int (own_ix f g mm (n + 1 - (o + mm)) o))]) rfl ?_
      show Steps p.tables e below (T302.setTop (mkF m 439 #[.val (.int p1), .val (.int p2), .val (.int p3), .val (.int p4), .val (.int (p1.toInt8.toInt32)), .val (.int (((p1.toUInt32 >>> ((8 : Int32) &&& 31).toUInt32).toInt32).toInt8.toInt32)), .val (.int (Int32.ofNat n)), .val (.int (Int32.ofNat mm)), .val (.int (Int32.ofNat o)), .val (.ref b282), .val (.ref b293), .val (.int zA), .val (.int (own_ix f g mm (n + 1 - (o + mm)) o))] [])) _
      refine XS.iload X302.here hx rfl (hb hby at_439) rfl ?_
      show Steps p.tables e below (T302.setTop (mkF m 441 #[.val (.int p1), .val (.int p2), .val (.int p3), .val (.int p4), .val (.int (p1.toInt8.toInt32)), .val (.int (((p1.toUInt32 >>> ((8 : Int32) &&& 31).toUInt32).toInt32).toInt8.toInt32)), .val (.int (Int32.ofNat n)), .val (.int (Int32.ofNat mm)), .val (.int (Int32.ofNat o)), .val (.ref b282), .val (.ref b293), .val (.int zA), .val (.int (own_ix f g mm (n + 1 - (o + mm)) o))] [(.int (own_ix f g mm (n + 1 - (o + mm)) o))])) _
      refine XS.iload X302.here hx rfl (hb hby at_441) rfl ?_
      show Steps p.tables e below (T302.setTop (mkF m 443 #[.val (.int p1), .val (.int p2), .val (.int p3), .val (.int p4), .val (.int (p1.toInt8.toInt32)), .val (.int (((p1.toUInt32 >>> ((8 : Int32) &&& 31).toUInt32).toInt32).toInt8.toInt32)), .val (.int (Int32.ofNat n)), .val (.int (Int32.ofNat mm)), .val (.int (Int32.ofNat o)), .val (.ref b282), .val (.ref b293), .val (.int zA), .val (.int (own_ix f g mm (n + 1 - (o + mm)) o))] [(.int zA), (.int (own_ix f g mm (n + 1 - (o + mm)) o))])) _
      refine XS.icmpNo X302.here hx rfl (hb hby at_443) rfl (XT.ii_ne_f (hA.symm : (own_ix f g mm (n + 1 - (o + mm)) o) = zA)) ?_
      show Steps p.tables e below (T302.setTop (mkF m 446 #[.val (.int p1), .val (.int p2), .val (.int p3), .val (.int p4), .val (.int (p1.toInt8.toInt32)), .val (.int (((p1.toUInt32 >>> ((8 : Int32) &&& 31).toUInt32).toInt32).toInt8.toInt32)), .val (.int (Int32.ofNat n)), .val (.int (Int32.ofNat mm)), .val (.int (Int32.ofNat o)), .val (.ref b282), .val (.ref b293), .val (.int zA), .val (.int (own_ix f g mm (n + 1 - (o + mm)) o))] [])) _
      refine XS.iconst X302.here hx rfl (hb hby at_446) ?_
      show Steps p.tables e below (T302.setTop (mkF m 447 #[.val (.int p1), .val (.int p2), .val (.int p3), .val (.int p4), .val (.int (p1.toInt8.toInt32)), .val (.int (((p1.toUInt32 >>> ((8 : Int32) &&& 31).toUInt32).toInt32).toInt8.toInt32)), .val (.int (Int32.ofNat n)), .val (.int (Int32.ofNat mm)), .val (.int (Int32.ofNat o)), .val (.ref b282), .val (.ref b293), .val (.int zA), .val (.int (own_ix f g mm (n + 1 - (o + mm)) o))] [(.int (1 : Int32))])) _
      refine XS.goto X302.here hx rfl (pc0 := 447) (pc' := 451) rfl (hb hby at_447) (by decide) (by decide) ?_
      show Steps p.tables e below (T302.setTop (mkF m 451 #[.val (.int p1), .val (.int p2), .val (.int p3), .val (.int p4), .val (.int (p1.toInt8.toInt32)), .val (.int (((p1.toUInt32 >>> ((8 : Int32) &&& 31).toUInt32).toInt32).toInt8.toInt32)), .val (.int (Int32.ofNat n)), .val (.int (Int32.ofNat mm)), .val (.int (Int32.ofNat o)), .val (.ref b282), .val (.ref b293), .val (.int zA), .val (.int (own_ix f g mm (n + 1 - (o + mm)) o))] [(.int (1 : Int32))])) _
      exact k)
  obtain ⟨fs, hr, hrun, hended, hW, hsame⟩ := X302.leave (v := some (.int (1 : Int32))) (fun h => by rw [Bd.returns] at h; cases h)
  refine ⟨_, _, q304 _ ?_, hrun, hended, _, _, rfl, ?_, ⟨_, rfl⟩, hW, hsame.mono (by decide) (by decide)⟩
  · show Steps p.tables e below (T302.setTop (mkF m 451 #[.val (.int p1), .val (.int p2), .val (.int p3), .val (.int p4), .val (.int (p1.toInt8.toInt32)), .val (.int (((p1.toUInt32 >>> ((8 : Int32) &&& 31).toUInt32).toInt32).toInt8.toInt32)), .val (.int (Int32.ofNat n)), .val (.int (Int32.ofNat mm)), .val (.int (Int32.ofNat o)), .val (.ref b282), .val (.ref b293), .val (.int zA), .val (.int (own_ix f g mm (n + 1 - (o + mm)) o))] [(.int (1 : Int32))])) _
    exact retN X302 hx (t := .boolean) Bd.returns (by simp) (hb hby at_451) hr
  · show QL n0 _ T302.heap _
    exact ⟨rfl, N302⟩
set_option maxRecDepth 65536 in
set_option maxHeartbeats 40000000 in
theorem comes_1 {Post : Tables → Env → Array Value → State → Outcome → State → Prop} (hpost : ∀ tb e args s v u, (limb_1_1.after args s (.returned v) u = true ∧ limb_1_2.after args s (.returned v) u = true ∧ True) → FrameEnd s (.returned v) u (Jvm.fieldLocs frame_1_writes args s ++ Jvm.arrayLocs frame_1_arrays args s ++ Jvm.staticLocs frame_1_statics s) 16 128 → Post tb e args s (.returned v) u) :
    ArmFor flags0 classFile x code maxLocals ret World_1 tables_1 room_1 Calls_1 rest_1 Pre_1 Post := by
  intro l hfl _ _ p e ha hc hk s m args below hf hA hF happ hP
  obtain ⟨hcalls, hrest, hpre⟩ := hP
  obtain ⟨-, -, -, hnamed, -, -, -, hat⟩ := (Spec.applies_iff hf).mp happ
  obtain ⟨hg, hn⟩ := and_e (Cond.before_iff.mp (show (Jvm.Cond.and given_1 narrow_1).before args s = true from hpre))
  obtain ⟨gc, r0⟩ := and_e hg
  obtain ⟨g0, r1⟩ := and_e r0
  obtain ⟨g1, r2⟩ := and_e r1
  obtain ⟨g2, r3⟩ := and_e r2
  obtain ⟨w0, w1, w2, w3, rfl⟩ : ∃ w0 w1 w2 w3 : Value, args = #[w0, w1, w2, w3] := by
    have hs : args.size = 4 := by simpa [Cond.value, given_1] using gc
    obtain ⟨L⟩ := args
    match L, hs with
    | [w0, w1, w2, w3], _ => exact ⟨w0, w1, w2, w3, rfl⟩
  have hw := fun d (hd : d ∈ tables_1) => atoms_spec (ws := Jvm.Cond.code x code maxLocals ret :: tables_1) hat d (List.mem_cons_of_mem _ hd)
  obtain ⟨i0, ei0⟩ := is_v g0
  obtain rfl : w0 = (.int i0) := Option.some.inj ei0
  obtain ⟨i1, ei1⟩ := is_v g1
  obtain rfl : w1 = (.int i1) := Option.some.inj ei1
  obtain ⟨i2, ei2⟩ := is_v g2
  obtain rfl : w2 = (.int i2) := Option.some.inj ei2
  obtain ⟨i3, ei3⟩ := is_v r3
  obtain rfl : w3 = (.int i3) := Option.some.inj ei3
  obtain ⟨n, o, h1, h2, h3, _, L, rfl, ⟨rfl, N⟩, hq⟩ := rm0 l s _ hw tables_1 i0 i1 i2 i3 s.heap s.heap.size (Nat.le_refl _) p e ha hc hk s m _ below hf ((Spec.applies_iff_loose hf).mp happ).1 ⟨rfl, State.Warmed39.refl s, rfl⟩ trivial
  refine ⟨n, _, h1, h2, h3, hpost _ _ _ _ _ _ ⟨Cond.after_iff.mpr rfl, Cond.after_iff.mpr (eq_i res_at (Term.int_eval (1)) rfl), trivial⟩ ⟨hq.1, hq.2.1, (hq.2.2.sift fun y hy => Or.inr (N y hy)).mono (by decide) (by decide)⟩⟩
theorem main_1_1 : Claimed_1_1 := comes_1 fun _ _ _ _ _ _ h hF => ⟨h.1, hF⟩
theorem main_1_2 : Claimed_1_2 := comes_1 fun _ _ _ _ _ _ h hF => ⟨h.2.1, hF⟩
end Jvm.Pilot.@@N@@
namespace Jvm.Pilot.@@N@@
open Jvm Jvm.ClassFile Sem Op Lib Jvm.Free Jvm.Stand Jvm.Pilot.@@N@@.Jvm.D
/-! MADE BY PROGRAM (witnessworld.py) out of the Statement's table words and the real class files: 11 classes; the members and pool entries that the words name. The judged class is class 1, her method 1. -/
namespace start1
open Jvm.ClassFile
def u (s : String) : CpInfo := .utf8 (stringToUtf16 s)
/-- a pool by its gaps: so many unusable entries, then the entry; so many at the end -/
def gap : Nat → List CpInfo → List CpInfo
  | 0, r => r
  | n + 1, r => .unusable :: gap n r
def poolList (es : List (Nat × CpInfo)) (last : Nat) : List CpInfo := es.foldr (fun e r => gap e.1 (e.2 :: r)) (gap last [])
def pool (es : List (Nat × CpInfo)) (last : Nat) : Array CpInfo := ⟨poolList es last⟩
def fileOf (pool : Array CpInfo) (this : Nat) (attrs : Array Attribute := #[]) (ms : Array MethodInfo := #[]) (fl : Nat := 33) (sup : Nat := 0) (ifs : Array Nat := #[]) (fds : Array FieldInfo := #[]) : ClassFile where
  minorVersion := 0
  majorVersion := 65
  constantPool := pool
  accessFlags := fl
  thisClass := this
  superClass := sup
  interfaces := ifs
  fields := fds
  methods := ms
  attributes := attrs
def plain (name : String) (sup : Option ClassId) : Class where
  name := name
  kind := .ordinary
  loader := none
  accessFlags := 33
  super := sup
  interfaces := #[]
  cf := none
  fields := #[]
  methods := #[]
  instanceTypes := #[]
  staticTypes := #[]
  resolved := #[]
  callSites := []
  init := .initialized
  statics := none
  mirror := none

def pool0 : Array CpInfo := pool [(5, u "<init>"), (0, u "()V"), (1, .class_ 10), (1, u "java/lang/Object")] 113

def k0m0 : Method := { name := "<init>", desc := "()V", sig := { parameters := [], returnType := none }, accessFlags := 1, code := none }
/-- java/lang/Object -/
def k0 : Class := { plain "java/lang/Object" none with
  accessFlags := 33
  interfaces := #[]
  cf := some (fileOf pool0 8 #[] #[{ accessFlags := 1, nameIndex := 5, descriptorIndex := 6, attributes := #[] }] 33 0 #[] #[])
  fields := #[]
  methods := #[k0m0]
  instanceTypes := #[]
  staticTypes := #[]
  resolved := Array.replicate 124 none
  statics := none }

def pool1 : Array CpInfo := pool [(2, .class_ 4), (1, u "java/lang/Object"), (0, u "<init>"), (0, u "()V"), (0, .integer 2147483647), (0, .methodref 9 10), (0, .class_ 11), (0, .nameAndType 12 13), (0, u "com/example/orbweaver/orbweaver/store/GzipMembersIndexOfPinLaw"), (0, u "pick"), (0, u "(IIBB)B"), (0, .methodref 9 15), (0, .nameAndType 16 17), (0, u "matchAt"), (0, u "([B[BI)Z"), (0, .methodref 19 20), (0, .class_ 21), (0, .nameAndType 22 23), (0, u "com/example/orbweaver/orbweaver/store/GzipMembers"), (0, u "indexOf"), (0, u "([BI[B)I"), (2, u "law"), (0, u "(IIII)Z")] 5

def k1m0 : Method := { name := "<init>", desc := "()V", sig := { parameters := [], returnType := none }, accessFlags := 1, code := none }
def k1c1 : Code := { maxStack := 6, maxLocals := 13, code := code, exceptionTable := #[], attributes := #[] }
def k1m1 : Method := { name := "law", desc := "(IIII)Z", sig := { parameters := [.int, .int, .int, .int], returnType := some .boolean }, accessFlags := 9, code := some k1c1 }
def k1c2 : Code := { maxStack := 2, maxLocals := 4, code := method_3_code, exceptionTable := #[], attributes := #[] }
def k1m2 : Method := { name := "pick", desc := "(IIBB)B", sig := { parameters := [.int, .int, .byte, .byte], returnType := some .byte }, accessFlags := 10, code := some k1c2 }
def k1c3 : Code := { maxStack := 3, maxLocals := 4, code := method_4_code, exceptionTable := #[], attributes := #[] }
def k1m3 : Method := { name := "matchAt", desc := "([B[BI)Z", sig := { parameters := [(.array .byte), (.array .byte), .int], returnType := some .boolean }, accessFlags := 10, code := some k1c3 }
/-- com/example/orbweaver/orbweaver/store/GzipMembersIndexOfPinLaw -/
def k1 : Class := { plain "com/example/orbweaver/orbweaver/store/GzipMembersIndexOfPinLaw" (some 0) with
  accessFlags := 49
  interfaces := #[]
  cf := some (fileOf pool1 9 #[] #[{ accessFlags := 1, nameIndex := 5, descriptorIndex := 6, attributes := #[] }, { accessFlags := 9, nameIndex := 26, descriptorIndex := 27, attributes := #[] }, { accessFlags := 10, nameIndex := 12, descriptorIndex := 13, attributes := #[] }, { accessFlags := 10, nameIndex := 16, descriptorIndex := 17, attributes := #[] }] 49 2 #[] #[])
  fields := #[]
  methods := #[k1m0, k1m1, k1m2, k1m3]
  instanceTypes := #[]
  staticTypes := #[]
  resolved := Array.replicate 33 none
  statics := none }

def pool2 : Array CpInfo := pool [(2, .class_ 4), (1, u "java/lang/Object"), (3, .class_ 10), (1, u "com/example/orbweaver/orbweaver/store/GzipMembers"), (0, u "bytes"), (0, u "[B"), (2, u "members"), (0, u "Ljava/util/List;"), (2, u "content"), (17, .class_ 39), (1, u "com/example/orbweaver/orbweaver/store/GzipMembers$Member"), (5, u "I"), (42, u "FLUSH_END"), (2, u "indexOf"), (0, u "([BI[B)I"), (46, .methodref 140 141), (0, .class_ 142), (0, .nameAndType 143 144), (0, u "java/util/Arrays"), (0, u "equals"), (0, u "([BII[BII)Z"), (33, u "BUFFER_BYTES")] 24

def k2c0 : Code := { maxStack := 6, maxLocals := 5, code := prog_14_method_10_code, exceptionTable := #[], attributes := #[] }
def k2m0 : Method := { name := "indexOf", desc := "([BI[B)I", sig := { parameters := [(.array .byte), .int, (.array .byte)], returnType := some .int }, accessFlags := 8, code := some k2c0 }
/-- com/example/orbweaver/orbweaver/store/GzipMembers -/
def k2 : Class := { plain "com/example/orbweaver/orbweaver/store/GzipMembers" (some 0) with
  accessFlags := 32
  interfaces := #[]
  cf := some (fileOf pool2 8 #[.nestMembers #[37]] #[{ accessFlags := 8, nameIndex := 91, descriptorIndex := 92, attributes := #[] }] 32 2 #[] #[{ accessFlags := 26, nameIndex := 88, descriptorIndex := 12, attributes := #[] }, { accessFlags := 26, nameIndex := 178, descriptorIndex := 45, attributes := #[] }, { accessFlags := 18, nameIndex := 11, descriptorIndex := 12, attributes := #[] }, { accessFlags := 18, nameIndex := 15, descriptorIndex := 16, attributes := #[] }, { accessFlags := 18, nameIndex := 19, descriptorIndex := 12, attributes := #[] }])
  fields := #[{ name := "FLUSH_END", type := (.array .byte), accessFlags := 26, slot := 0, constantValue := 0 }, { name := "BUFFER_BYTES", type := .int, accessFlags := 26, slot := 1, constantValue := 0 }, { name := "bytes", type := (.array .byte), accessFlags := 18, slot := 0, constantValue := 0 }, { name := "members", type := (.object "java/util/List"), accessFlags := 18, slot := 1, constantValue := 0 }, { name := "content", type := (.array .byte), accessFlags := 18, slot := 2, constantValue := 0 }]
  methods := #[k2m0]
  instanceTypes := #[(.array .byte), (.object "java/util/List"), (.array .byte)]
  staticTypes := #[(.array .byte), .int]
  resolved := Array.replicate 203 none
  statics := none }

def pool3 : Array CpInfo := pool [(2, .class_ 4), (1, u "java/lang/Object"), (0, u "<init>"), (0, u "()V"), (6, .methodref 14 15), (0, .class_ 16), (0, .nameAndType 17 18), (0, u "java/util/Arrays"), (0, u "rangeCheck"), (0, u "(III)V"), (55, .class_ 76), (1, u "java/util/Arrays$NaturalOrder"), (36, .class_ 115), (1, u "java/util/Arrays$LegacyMergeSort"), (1, u "Z"), (128, .class_ 248), (1, u "jdk/internal/util/ArraysSupport"), (0, u "mismatch"), (25, .methodref 246 276), (0, .nameAndType 249 277), (0, u "([BI[BII)I"), (20, u "equals"), (76, .class_ 376), (0, u "java/util/Arrays$ArrayList"), (68, u "$assertionsDisabled"), (269, u "MIN_ARRAY_SORT_GRAN"), (0, u "I"), (2, u "INSERTIONSORT_THRESHOLD"), (111, u "([BII[BII)Z"), (143, .class_ 976), (0, u "java/util/Arrays$ArrayItr")] 52

def k3m0 : Method := { name := "<init>", desc := "()V", sig := { parameters := [], returnType := none }, accessFlags := 2, code := none }
def k3c1 : Code := { maxStack := 4, maxLocals := 3, code := jdk_65_method_30_code, exceptionTable := #[], attributes := #[] }
def k3m1 : Method := { name := "rangeCheck", desc := "(III)V", sig := { parameters := [.int, .int, .int], returnType := none }, accessFlags := 8, code := some k3c1 }
def k3c2 : Code := { maxStack := 5, maxLocals := 8, code := jdk_65_method_90_code, exceptionTable := #[], attributes := #[] }
def k3m2 : Method := { name := "equals", desc := "([BII[BII)Z", sig := { parameters := [(.array .byte), .int, .int, (.array .byte), .int, .int], returnType := some .boolean }, accessFlags := 9, code := some k3c2 }
/-- java/util/Arrays -/
def k3 : Class := { plain "java/util/Arrays" (some 0) with
  accessFlags := 49
  interfaces := #[]
  cf := some (fileOf pool3 14 #[.nestMembers #[975, 375, 113, 74]] #[{ accessFlags := 2, nameIndex := 5, descriptorIndex := 6, attributes := #[] }, { accessFlags := 8, nameIndex := 17, descriptorIndex := 18, attributes := #[] }, { accessFlags := 9, nameIndex := 298, descriptorIndex := 831, attributes := #[] }] 49 2 #[] #[{ accessFlags := 26, nameIndex := 715, descriptorIndex := 716, attributes := #[] }, { accessFlags := 26, nameIndex := 719, descriptorIndex := 716, attributes := #[] }, { accessFlags := 4120, nameIndex := 445, descriptorIndex := 117, attributes := #[] }])
  fields := #[{ name := "MIN_ARRAY_SORT_GRAN", type := .int, accessFlags := 26, slot := 0, constantValue := 0 }, { name := "INSERTIONSORT_THRESHOLD", type := .int, accessFlags := 26, slot := 1, constantValue := 0 }, { name := "$assertionsDisabled", type := .boolean, accessFlags := 4120, slot := 2, constantValue := 0 }]
  methods := #[k3m0, k3m1, k3m2]
  instanceTypes := #[]
  staticTypes := #[.int, .int, .boolean]
  resolved := Array.replicate 1029 none
  statics := none }

def pool4 : Array CpInfo := pool [(9, u "<init>"), (6, .class_ 18), (1, u "java/lang/Object"), (0, u "()V"), (1, .class_ 23), (1, u "jdk/internal/util/ArraysSupport"), (0, u "LOG2_ARRAY_LONG_INDEX_SCALE"), (0, u "I"), (2, u "U"), (0, u "Ljdk/internal/misc/Unsafe;"), (8, u "BIG_ENDIAN"), (0, u "Z"), (8, u "LOG2_BYTE_BIT_SIZE"), (4, u "LOG2_ARRAY_INT_INDEX_SCALE"), (54, u "JLA"), (0, u "Ljdk/internal/access/JavaLangAccess;"), (11, u "LOG2_ARRAY_BOOLEAN_INDEX_SCALE"), (9, u "LOG2_ARRAY_BYTE_INDEX_SCALE"), (5, u "LOG2_ARRAY_CHAR_INDEX_SCALE"), (5, u "LOG2_ARRAY_SHORT_INDEX_SCALE"), (5, u "mismatch"), (12, u "LOG2_ARRAY_FLOAT_INDEX_SCALE"), (24, u "LOG2_ARRAY_DOUBLE_INDEX_SCALE"), (89, u "T_BOOLEAN"), (2, u "T_CHAR"), (1, u "T_FLOAT"), (1, u "T_DOUBLE"), (1, u "T_BYTE"), (1, u "T_SHORT"), (1, u "T_INT"), (1, u "T_LONG"), (1, u "SOFT_MAX_ARRAY_LENGTH"), (42, u "([BI[BII)I")] 40

def k4m0 : Method := { name := "<init>", desc := "()V", sig := { parameters := [], returnType := none }, accessFlags := 2, code := none }
def k4c1 : Code := { maxStack := 8, maxLocals := 8, code := jdk_48_method_14_code, exceptionTable := #[], attributes := #[] }
def k4m1 : Method := { name := "mismatch", desc := "([BI[BII)I", sig := { parameters := [(.array .byte), .int, (.array .byte), .int, .int], returnType := some .int }, accessFlags := 9, code := some k4c1 }
/-- jdk/internal/util/ArraysSupport -/
def k4 : Class := { plain "jdk/internal/util/ArraysSupport" (some 0) with
  accessFlags := 33
  interfaces := #[]
  cf := some (fileOf pool4 21 #[] #[{ accessFlags := 2, nameIndex := 9, descriptorIndex := 19, attributes := #[] }, { accessFlags := 9, nameIndex := 149, descriptorIndex := 337, attributes := #[] }] 33 16 #[] #[{ accessFlags := 24, nameIndex := 28, descriptorIndex := 29, attributes := #[] }, { accessFlags := 26, nameIndex := 38, descriptorIndex := 39, attributes := #[] }, { accessFlags := 25, nameIndex := 121, descriptorIndex := 25, attributes := #[] }, { accessFlags := 25, nameIndex := 131, descriptorIndex := 25, attributes := #[] }, { accessFlags := 25, nameIndex := 137, descriptorIndex := 25, attributes := #[] }, { accessFlags := 25, nameIndex := 143, descriptorIndex := 25, attributes := #[] }, { accessFlags := 25, nameIndex := 53, descriptorIndex := 25, attributes := #[] }, { accessFlags := 25, nameIndex := 24, descriptorIndex := 25, attributes := #[] }, { accessFlags := 25, nameIndex := 162, descriptorIndex := 25, attributes := #[] }, { accessFlags := 25, nameIndex := 187, descriptorIndex := 25, attributes := #[] }, { accessFlags := 26, nameIndex := 48, descriptorIndex := 25, attributes := #[] }, { accessFlags := 25, nameIndex := 277, descriptorIndex := 25, attributes := #[] }, { accessFlags := 25, nameIndex := 280, descriptorIndex := 25, attributes := #[] }, { accessFlags := 25, nameIndex := 282, descriptorIndex := 25, attributes := #[] }, { accessFlags := 25, nameIndex := 284, descriptorIndex := 25, attributes := #[] }, { accessFlags := 25, nameIndex := 286, descriptorIndex := 25, attributes := #[] }, { accessFlags := 25, nameIndex := 288, descriptorIndex := 25, attributes := #[] }, { accessFlags := 25, nameIndex := 290, descriptorIndex := 25, attributes := #[] }, { accessFlags := 25, nameIndex := 292, descriptorIndex := 25, attributes := #[] }, { accessFlags := 26, nameIndex := 108, descriptorIndex := 109, attributes := #[] }, { accessFlags := 25, nameIndex := 294, descriptorIndex := 25, attributes := #[] }])
  fields := #[{ name := "U", type := (.object "jdk/internal/misc/Unsafe"), accessFlags := 24, slot := 0, constantValue := 0 }, { name := "BIG_ENDIAN", type := .boolean, accessFlags := 26, slot := 1, constantValue := 0 }, { name := "LOG2_ARRAY_BOOLEAN_INDEX_SCALE", type := .int, accessFlags := 25, slot := 2, constantValue := 0 }, { name := "LOG2_ARRAY_BYTE_INDEX_SCALE", type := .int, accessFlags := 25, slot := 3, constantValue := 0 }, { name := "LOG2_ARRAY_CHAR_INDEX_SCALE", type := .int, accessFlags := 25, slot := 4, constantValue := 0 }, { name := "LOG2_ARRAY_SHORT_INDEX_SCALE", type := .int, accessFlags := 25, slot := 5, constantValue := 0 }, { name := "LOG2_ARRAY_INT_INDEX_SCALE", type := .int, accessFlags := 25, slot := 6, constantValue := 0 }, { name := "LOG2_ARRAY_LONG_INDEX_SCALE", type := .int, accessFlags := 25, slot := 7, constantValue := 0 }, { name := "LOG2_ARRAY_FLOAT_INDEX_SCALE", type := .int, accessFlags := 25, slot := 8, constantValue := 0 }, { name := "LOG2_ARRAY_DOUBLE_INDEX_SCALE", type := .int, accessFlags := 25, slot := 9, constantValue := 0 }, { name := "LOG2_BYTE_BIT_SIZE", type := .int, accessFlags := 26, slot := 10, constantValue := 0 }, { name := "T_BOOLEAN", type := .int, accessFlags := 25, slot := 11, constantValue := 0 }, { name := "T_CHAR", type := .int, accessFlags := 25, slot := 12, constantValue := 0 }, { name := "T_FLOAT", type := .int, accessFlags := 25, slot := 13, constantValue := 0 }, { name := "T_DOUBLE", type := .int, accessFlags := 25, slot := 14, constantValue := 0 }, { name := "T_BYTE", type := .int, accessFlags := 25, slot := 15, constantValue := 0 }, { name := "T_SHORT", type := .int, accessFlags := 25, slot := 16, constantValue := 0 }, { name := "T_INT", type := .int, accessFlags := 25, slot := 17, constantValue := 0 }, { name := "T_LONG", type := .int, accessFlags := 25, slot := 18, constantValue := 0 }, { name := "JLA", type := (.object "jdk/internal/access/JavaLangAccess"), accessFlags := 26, slot := 19, constantValue := 0 }, { name := "SOFT_MAX_ARRAY_LENGTH", type := .int, accessFlags := 25, slot := 20, constantValue := 0 }]
  methods := #[k4m0, k4m1]
  instanceTypes := #[]
  staticTypes := #[(.object "jdk/internal/misc/Unsafe"), .boolean, .int, .int, .int, .int, .int, .int, .int, .int, .int, .int, .int, .int, .int, .int, .int, .int, .int, (.object "jdk/internal/access/JavaLangAccess"), .int]
  resolved := Array.replicate 378 none
  statics := none }

def pool5 : Array CpInfo := pool [(1, u "java/lang/Cloneable"), (0, .class_ 1), (0, u "java/lang/Object"), (0, .class_ 3)] 3

/-- java/lang/Cloneable -/
def k5 : Class := { plain "java/lang/Cloneable" (some 0) with
  accessFlags := 1537
  interfaces := #[]
  cf := some (fileOf pool5 2 #[] #[] 1537 4 #[] #[])
  fields := #[]
  methods := #[]
  instanceTypes := #[]
  staticTypes := #[]
  resolved := Array.replicate 8 none
  statics := none }

def pool6 : Array CpInfo := pool [(1, u "java/io/Serializable"), (0, .class_ 1), (0, u "java/lang/Object"), (0, .class_ 3)] 3

/-- java/io/Serializable -/
def k6 : Class := { plain "java/io/Serializable" (some 0) with
  accessFlags := 1537
  interfaces := #[]
  cf := some (fileOf pool6 2 #[] #[] 1537 4 #[] #[])
  fields := #[]
  methods := #[]
  instanceTypes := #[]
  staticTypes := #[]
  resolved := Array.replicate 8 none
  statics := none }

/-- the primitive byte -/
def k7 : Class := { plain "byte" none with kind := .primitive 'B', accessFlags := 0x411 }
/-- [B -/
def k8 : Class := { plain "[B" (some 0) with kind := .array 7 .byte, interfaces := #[5, 6], accessFlags := 1041 }

/-- the primitive int -/
def k9 : Class := { plain "int" none with kind := .primitive 'I', accessFlags := 0x411 }
/-- [I -/
def k10 : Class := { plain "[I" (some 0) with kind := .array 9 .int, interfaces := #[5, 6], accessFlags := 1041 }

def heap : Heap := #[]
def classes : Array Class := #[k0, k1, k2, k3, k4, k5, k6, k7, k8, k9, k10]
def interned : List (Array UInt16 × Addr) := []
def slotsUsed : Nat := 0
def theMethod : MethodId := ⟨1, 1⟩
def args0 : Array Value := #[.int 5, .int 6, .int 7, .int 8]
def aboutOver (below : List Frame) : State where
  vm := { classes := classes, interned := interned.toArray }
  heap := heap
  slotsUsed := slotsUsed
  threads := #[{ frames := .invoking theMethod args0 :: below }]
def below0 : List Frame := [.native { method := ⟨0, 0⟩, args := #[] }]
def about1 : State := aboutOver below0
def p0 : Program := .bare "" "" ""
def e0 : Env := launch0.env 0 0 0
theorem w_frames : about1.frames = Frame.invoking theMethod args0 :: below0 := rfl
set_option maxRecDepth 65536 in
theorem w_args : argsFit about1.vm theMethod args0 = true := by decide +kernel
set_option maxRecDepth 65536 in
theorem w_heap : heapFits about1 = true := by decide +kernel
set_option maxRecDepth 65536 in
theorem w_runnable : about1.curStatus? = some .runnable := by decide +kernel
set_option maxRecDepth 65536 in
theorem w_alone : about1.alone = true := by decide +kernel
set_option maxRecDepth 65536 in
theorem w_named : about1.methodNamed? x = some theMethod := by decide +kernel
set_option maxRecDepth 65536 in
theorem w_hears : about1.hears theMethod below0 = true := by decide +kernel
set_option maxRecDepth 65536 in
theorem w_ripe : about1.ripe theMethod args0 below0 = true := by decide +kernel
theorem w_running : about1.status = .running := rfl
set_option maxRecDepth 65536 in
theorem w_room : about1.hasRoom e0.platform room_1 = true :=
  launch0.hasRoom_least _ room_1 (by decide +kernel) (by decide +kernel) (by decide +kernel) (by decide +kernel) (by decide +kernel) (by decide +kernel)
theorem allAtoms_all (ts : List Jvm.Cond) (a : Array Jvm.Value) (st : Jvm.State) : (allAtoms ts).before a st = ts.all (fun c => c.before a st) := by
  induction ts with
  | nil => rfl
  | cons c t ih =>
    show (Jvm.Cond.and c (allAtoms t)).before a st = _
    rw [Jvm.Cond.before_and, ih, List.all_cons]
def words1 : List Jvm.Cond := Jvm.Cond.code x code maxLocals ret :: tables_1
/-- a 'code' word, met by the world's own term for the bytes: nothing is compared byte by byte -/
theorem code_word {y : MethodName} {bytes : ByteArray} {mx : Nat} {rt : Option FieldType} {a : Array Value} {s : State} {m : MethodId} {meth : Method} {c : Code} (h1 : s.methodNamed? y = some m) (h2 : s.vm.method? m = some meth) (h3 : meth.code = some c) (h4 : c.code = bytes)
    (h5 : (c.maxLocals == mx && c.exceptionTable.isEmpty && decide (c.maxStack ≤ mostOperands) && decide (meth.sig.returnType = rt) && !meth.locks && decide (parseMethodDescriptor y.desc = some meth.sig)) = true) : (Jvm.Cond.code y bytes mx rt).before a s = true := by
  simp only [Bool.and_eq_true, beq_iff_eq, Bool.not_eq_true', decide_eq_true_eq] at h5
  obtain ⟨⟨⟨⟨⟨g1, g2⟩, g3⟩, g4⟩, g5⟩, g6⟩ := h5
  simp [Cond.before, Cond.holds, Cond.value, h1, h2, h3, h4, g1, g2, g3, g4, g5, g6]
def isCode : Jvm.Cond → Bool
  | .code _ _ _ _ => true
  | _ => false
theorem all_split {L : List Jvm.Cond} {P : Jvm.Cond → Bool} (h1 : L.all (fun c => isCode c || P c) = true) (h2 : ∀ c ∈ L.filter isCode, P c = true) : L.all P = true := by
  refine List.all_eq_true.mpr fun c hc => ?_
  have h := List.all_eq_true.mp h1 c hc
  rcases Bool.eq_false_or_eq_true (isCode c) with hi | hi
  · exact h2 c (List.mem_filter.mpr ⟨hc, hi⟩)
  · simpa [hi] using h
set_option maxRecDepth 65536 in
theorem w_c0 : (Jvm.Cond.code x code maxLocals ret).before args0 about1 = true := code_word (m := ⟨1, 1⟩) (meth := k1m1) (c := k1c1) (by decide +kernel) rfl rfl rfl (by decide +kernel)
set_option maxRecDepth 65536 in
theorem w_c1 : (Jvm.Cond.code ({ cls := "com/example/orbweaver/orbweaver/store/GzipMembersIndexOfPinLaw", name := "pick", desc := "(IIBB)B" } : Jvm.MethodName) method_3_code (4 : Nat) (Option.some Jvm.ClassFile.FieldType.byte)).before args0 about1 = true := code_word (m := ⟨1, 2⟩) (meth := k1m2) (c := k1c2) (by decide +kernel) rfl rfl rfl (by decide +kernel)
set_option maxRecDepth 65536 in
theorem w_c2 : (Jvm.Cond.code ({ cls := "com/example/orbweaver/orbweaver/store/GzipMembersIndexOfPinLaw", name := "matchAt", desc := "([B[BI)Z" } : Jvm.MethodName) method_4_code (4 : Nat) (Option.some Jvm.ClassFile.FieldType.boolean)).before args0 about1 = true := code_word (m := ⟨1, 3⟩) (meth := k1m3) (c := k1c3) (by decide +kernel) rfl rfl rfl (by decide +kernel)
set_option maxRecDepth 65536 in
theorem w_c3 : (Jvm.Cond.code ({ cls := "com/example/orbweaver/orbweaver/store/GzipMembers", name := "indexOf", desc := "([BI[B)I" } : Jvm.MethodName) prog_14_method_10_code (5 : Nat) (Option.some Jvm.ClassFile.FieldType.int)).before args0 about1 = true := code_word (m := ⟨2, 0⟩) (meth := k2m0) (c := k2c0) (by decide +kernel) rfl rfl rfl (by decide +kernel)
set_option maxRecDepth 65536 in
theorem w_c4 : (Jvm.Cond.code ({ cls := "java/util/Arrays", name := "equals", desc := "([BII[BII)Z" } : Jvm.MethodName) jdk_65_method_90_code (8 : Nat) (Option.some Jvm.ClassFile.FieldType.boolean)).before args0 about1 = true := code_word (m := ⟨3, 2⟩) (meth := k3m2) (c := k3c2) (by decide +kernel) rfl rfl rfl (by decide +kernel)
set_option maxRecDepth 65536 in
theorem w_c5 : (Jvm.Cond.code ({ cls := "java/util/Arrays", name := "rangeCheck", desc := "(III)V" } : Jvm.MethodName) jdk_65_method_30_code (3 : Nat) (Option.none : Option Jvm.ClassFile.FieldType)).before args0 about1 = true := code_word (m := ⟨3, 1⟩) (meth := k3m1) (c := k3c1) (by decide +kernel) rfl rfl rfl (by decide +kernel)
set_option maxRecDepth 65536 in
theorem w_c6 : (Jvm.Cond.code ({ cls := "jdk/internal/util/ArraysSupport", name := "mismatch", desc := "([BI[BII)I" } : Jvm.MethodName) jdk_48_method_14_code (8 : Nat) (Option.some Jvm.ClassFile.FieldType.int)).before args0 about1 = true := code_word (m := ⟨4, 1⟩) (meth := k4m1) (c := k4c1) (by decide +kernel) rfl rfl rfl (by decide +kernel)
def codes1 : List Jvm.Cond := [Jvm.Cond.code x code maxLocals ret, Jvm.Cond.code ({ cls := "com/example/orbweaver/orbweaver/store/GzipMembersIndexOfPinLaw", name := "pick", desc := "(IIBB)B" } : Jvm.MethodName) method_3_code (4 : Nat) (Option.some Jvm.ClassFile.FieldType.byte), Jvm.Cond.code ({ cls := "com/example/orbweaver/orbweaver/store/GzipMembersIndexOfPinLaw", name := "matchAt", desc := "([B[BI)Z" } : Jvm.MethodName) method_4_code (4 : Nat) (Option.some Jvm.ClassFile.FieldType.boolean), Jvm.Cond.code ({ cls := "com/example/orbweaver/orbweaver/store/GzipMembers", name := "indexOf", desc := "([BI[B)I" } : Jvm.MethodName) prog_14_method_10_code (5 : Nat) (Option.some Jvm.ClassFile.FieldType.int), Jvm.Cond.code ({ cls := "java/util/Arrays", name := "equals", desc := "([BII[BII)Z" } : Jvm.MethodName) jdk_65_method_90_code (8 : Nat) (Option.some Jvm.ClassFile.FieldType.boolean), Jvm.Cond.code ({ cls := "java/util/Arrays", name := "rangeCheck", desc := "(III)V" } : Jvm.MethodName) jdk_65_method_30_code (3 : Nat) (Option.none : Option Jvm.ClassFile.FieldType), Jvm.Cond.code ({ cls := "jdk/internal/util/ArraysSupport", name := "mismatch", desc := "([BI[BII)I" } : Jvm.MethodName) jdk_48_method_14_code (8 : Nat) (Option.some Jvm.ClassFile.FieldType.int)]
set_option maxRecDepth 65536 in
theorem codes_eq : words1.filter isCode = codes1 := rfl
theorem w_codes : ∀ c ∈ words1.filter isCode, c.before args0 about1 = true := by
  rw [codes_eq]
  intro c hc
  simp only [codes1, List.mem_cons, List.not_mem_nil, or_false] at hc
  rcases hc with rfl | rfl | rfl | rfl | rfl | rfl | rfl
  · exact w_c0
  · exact w_c1
  · exact w_c2
  · exact w_c3
  · exact w_c4
  · exact w_c5
  · exact w_c6
set_option maxRecDepth 65536 in
theorem w_t1 : (words1.take 24).all (fun c => isCode c || c.before args0 about1) = true := by decide +kernel
set_option maxRecDepth 65536 in
theorem w_t2 : (words1.drop 24).all (fun c => isCode c || c.before args0 about1) = true := by decide +kernel
theorem w_tables : (allAtoms (Jvm.Cond.code x code maxLocals ret :: tables_1)).before args0 about1 = true := by
  rw [allAtoms_all]
  show words1.all (fun c => c.before args0 about1) = true
  refine all_split ?_ w_codes
  rw [← List.take_append_drop 24 words1, List.all_append, w_t1, w_t2]
  rfl
set_option maxRecDepth 65536 in
theorem w_case : (Jvm.Cond.and given_1 narrow_1).before args0 about1 = true := by decide +kernel
theorem w_applies : (headSpec (Jvm.Cond.code x code maxLocals ret :: tables_1) room_1).applies x e0.platform about1 = true :=
  (Spec.applies_iff w_frames).mpr ⟨w_running, w_runnable, w_alone, w_named, w_hears, w_ripe, w_room, w_tables⟩
theorem atStart : AtStart classFile x code maxLocals ret World_1 tables_1 room_1 Calls_1 rest_1 Pre_1 launch0 p0 e0 about1 theMethod args0 below0 :=
  ⟨lists_1, trivial, launch0.admits_env _ _ _, launch0.least_env, fairChoices_fair.cas, fairChoices_fair.clock, w_frames, w_args, w_heap, w_applies, trivial, trivial, w_case⟩
end start1
theorem witness_1 : WitnessClaimed_1 := ⟨start1.p0, start1.e0, start1.about1, start1.theMethod, start1.args0, start1.below0, start1.atStart⟩
end Jvm.Pilot.@@N@@
