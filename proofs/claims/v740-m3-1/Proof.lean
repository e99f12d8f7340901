import JvmDerived
import JvmDerived.Pilot.@@N@@Statement
import JvmDerived.Pilot.@@N@@Code
set_option linter.unusedVariables false
set_option linter.unusedSimpArgs false
namespace Jvm.Pilot.@@N@@
open Jvm Jvm.ClassFile Sem Op Lib Jvm.Free Jvm.Stand Jvm.LawKit Jvm.RoadKit Bundle Jvm.Pilot.@@N@@.Jvm.D
/-- from U the run comes to a state of which K holds -/
def own_Go (tb : Tables) (e : Env) (below : List Frame) (K : State → Prop) (U : State) : Prop := ∃ t, Steps tb e below U t ∧ K t
theorem own_by {tb : Tables} {e : Env} {below : List Frame} {K : State → Prop} {U U' : State} (k : ∀ t, Steps tb e below U' t → Steps tb e below U t) (h : own_Go tb e below K U') : own_Go tb e below K U := by
  obtain ⟨t, a, b⟩ := h
  exact ⟨t, k t a, b⟩
/-- what a returning instruction needs: the frames that it leaves, and that K holds there -/
def own_Out (e : Env) (m : MethodId) (K : State → Prop) (T : State) (v : Option Value) : Prop := ∃ fs, (∀ (f : JFrame) (acts : List Action), f.method = m → f.locked = none → f.entered = [] → (doReturn e (T.setTop f) acts v).1 = T.setFrames fs) ∧ K (T.setFrames fs)
theorem own_met {l : Launch} {y : MethodName} {bytes : ByteArray} {ml : Nat} {ret : Option FieldType} {ws : List Jvm.Cond} {rm : Room} {as' : Array Value} {Z : State} {h0 : Heap} {k n : Nat} {Q : Option Value → Heap → List Loc → Prop} (hp : plainFor y = true)
    (body : ∀ (p : Program) (e : Env) (s : State) (m : MethodId) (below : List Frame) (meth : Method) (c : Code) (s₁ : State) (K : State → Prop), p.tables.exec = Jvm.exec → c.code = bytes → c.maxLocals = ml → s.vm.findClass y.cls = some m.cls → meth.name = y.name → meth.sig.returnType = ret →
      Z.Warmed39 s.vm → Stand p l e rm s m as' below meth c s₁ [] 0 0 → s₁.heap = h0 →
      (∀ (v : Option Value) {T : State} {L : List Loc} {k' n' : Nat}, Stand p l e rm s m as' below meth c T L k' n' → (meth.sig.returnType = none → v = none) → Q v T.heap L → k' ≤ k → n' ≤ n → own_Out e m K T v) →
      own_Go p.tables e below K (s₁.setTop (entryFrame m as' ml))) :
    MetFree l y (head1 (Jvm.Cond.code y bytes ml ret :: ws) rm) (fun a U => a = as' ∧ Z.Warmed39 U.vm ∧ U.heap = h0) (fun _ _ _ _ _ => True) (fun _ U o U' => ∃ v L, o = .returned v ∧ Q v U'.heap L ∧ FrameEnd U o U' L k n) := by
  refine MetFree.of_bodySF hp hisR ?_
  intro p e s m args below meth c s₁ Bd hml0 hP hK
  obtain ⟨rfl, hZ, hh⟩ := hP
  have hown : s.vm.findClass y.cls = some m.cls := findClass_of_methodNamed Bd.named
  obtain ⟨t, hs, o, h1, h2, h3⟩ := body p e s m below meth c s₁ (fun t => ∃ o, t.status = .running ∧ Ended t below o ∧ ∃ v L, o = .returned v ∧ Q v t.heap L ∧ FrameEnd s o t L k n) Bd.exec Bd.bytes hml0 hown (name_of_methodNamed Bd.named Bd.method).1 Bd.returns hZ (Stand.of_body Bd) (by rw [← hh, Bd.state]; rfl) (by
    intro v T L k' n' X hv hq hk hn
    obtain ⟨fs, hr, hrun, hended, hW, hsame⟩ := X.leave (v := v) hv
    exact ⟨fs, hr, _, hrun, hended, v, L, rfl, hq, ⟨_, rfl⟩, hW, hsame.mono hk hn⟩)
  exact ⟨t, o, hs, h1, h2, h3⟩
section OwnRet
variable {p : Program} {l : Launch} {e : Env} {R : Room} {s : State} {m : MethodId} {args : Array Value} {below : List Frame} {meth : Method} {c : Code} {T : State} {locs : List Loc} {cells slots : Nat} {K : State → Prop}
theorem own_retI (X : Stand p l e R s m args below meth c T locs cells slots) (hx : p.tables.exec = Jvm.exec) (hret : meth.sig.returnType = some .int) {pc : Nat} {Ls : Array Slot} {z : Int32} {rest : List Value} (hd : decode c.code pc = .ok (.ireturn, 1)) (hq : own_Out e m K T (some (.int z))) : own_Go p.tables e below K (T.setTop (mkF m pc Ls (.int z :: rest))) := by
  obtain ⟨fs, hr, hk⟩ := hq
  exact ⟨_, retOut X hx hret rfl (Or.inl ⟨rfl, Or.inl rfl, _, rfl⟩) hd hr, hk⟩
theorem own_retZ (X : Stand p l e R s m args below meth c T locs cells slots) (hx : p.tables.exec = Jvm.exec) {t : FieldType} (hret : meth.sig.returnType = some t) (ht : t = .boolean ∨ t = .byte ∨ t = .char ∨ t = .short) {pc : Nat} {Ls : Array Slot} {z : Int32} {rest : List Value} (hd : decode c.code pc = .ok (.ireturn, 1)) (hq : own_Out e m K T (some (.int (nar t z)))) : own_Go p.tables e below K (T.setTop (mkF m pc Ls (.int z :: rest))) := by
  obtain ⟨fs, hr, hk⟩ := hq
  exact ⟨_, retN X hx hret ht hd hr, hk⟩
theorem own_retJ (X : Stand p l e R s m args below meth c T locs cells slots) (hx : p.tables.exec = Jvm.exec) (hret : meth.sig.returnType = some .long) {pc : Nat} {Ls : Array Slot} {z : Int64} {rest : List Value} (hd : decode c.code pc = .ok (.lreturn, 1)) (hq : own_Out e m K T (some (.long z))) : own_Go p.tables e below K (T.setTop (mkF m pc Ls (.long z :: rest))) := by
  obtain ⟨fs, hr, hk⟩ := hq
  exact ⟨_, retOut X hx hret rfl (Or.inr (Or.inl ⟨rfl, rfl, _, rfl⟩)) hd hr, hk⟩
theorem own_retA (X : Stand p l e R s m args below meth c T locs cells slots) (hx : p.tables.exec = Jvm.exec) {t : FieldType} (hret : meth.sig.returnType = some t) (ht : t.isReference = true) {pc : Nat} {Ls : Array Slot} {w : Value} {rest : List Value} (hn : narrow t w = w) (hw : w.isRef = true) (hd : decode c.code pc = .ok (.areturn, 1)) (hq : own_Out e m K T (some w)) : own_Go p.tables e below K (T.setTop (mkF m pc Ls (w :: rest))) := by
  obtain ⟨fs, hr, hk⟩ := hq
  exact ⟨_, retOut X hx hret hn (Or.inr (Or.inr (Or.inr (Or.inr ⟨rfl, ht, hw⟩)))) hd hr, hk⟩
theorem own_retV (X : Stand p l e R s m args below meth c T locs cells slots) (hx : p.tables.exec = Jvm.exec) (hret : meth.sig.returnType = none) {pc : Nat} {Ls : Array Slot} (hd : decode c.code pc = .ok (.return_, 1)) (hq : own_Out e m K T none) : own_Go p.tables e below K (T.setTop (mkF m pc Ls [])) := by
  obtain ⟨fs, hr, hk⟩ := hq
  exact ⟨_, X.returnOut hx hret hd hr, hk⟩
end OwnRet
theorem own_nar {C : String} {w : Value} (h : w.isRef = true) : narrow (.object C) w = w := by cases w <;> rfl
theorem own_fit {C : String} {w : Value} (h : w.isRef = true) : fits (.object C) w = true := by cases w <;> first | rfl | (simp [Value.isRef] at h)
theorem own_more {p : Program} {l : Launch} {e : Env} {R : Room} {s : State} {m : MethodId} {args : Array Value} {below : List Frame} {meth : Method} {c : Code} {T : State} {locs : List Loc} {k n k' n' : Nat} (X : Stand p l e R s m args below meth c T locs k n) (hk : k ≤ k') (hn : n ≤ n') : Stand p l e R s m args below meth c T locs k' n' := { X with same := X.same.mono hk hn }
/-- a condition as 0 or 1 -/
def own_tern (x : Int32) : Int32 := if x = 0 then 0 else 1
theorem own_t0 {x : Int32} (h : x = 0) : own_tern x = 0 := if_pos h
theorem own_t1 {x : Int32} (h : ¬ x = 0) : own_tern x = 1 := if_neg h
theorem own_t01 (x : Int32) : own_tern x = 0 ∨ own_tern x = 1 := by unfold own_tern; split <;> simp
theorem own_nb {x : Int32} (h : x = 0 ∨ x = 1) : nar .boolean x = x := by rcases h with rfl | rfl <;> rfl
theorem own_b53 (x : Int32) : B53 x.toInt64 := by
  have h1 := x.toInt_lt; have h2 := x.le_toInt
  unfold B53
  rw [Int32.toInt_toInt64]
  omega
theorem own_i64 (x y : Int32) : x.toInt64 < y.toInt64 ↔ x < y := by rw [Int64.lt_iff_toInt_lt, Int32.lt_iff_toInt_lt, Int32.toInt_toInt64, Int32.toInt_toInt64]
theorem own_ni {x y : Int32} (h : ¬ x = y) {n : Int} (e : y.toInt = n) : ¬ x.toInt = n := fun q => h (Int32.toInt_inj.mp (q.trans e.symm))
theorem own_llt {x y : Int64} (h : x < y) : ifCond.holds .lt (lcmpW x y) = true ∧ ifCond.holds .ge (lcmpW x y) = false := by
  have q := tlt (by rw [lcW]; exact (lc_lt x y).mpr h : lcmpW x y < 0)
  exact ⟨(if0 _ _).trans q.1, (if0 _ _).trans q.2.1⟩
theorem own_lge {x y : Int64} (h : ¬ x < y) : ifCond.holds .lt (lcmpW x y) = false ∧ ifCond.holds .ge (lcmpW x y) = true := by
  have q := flt (by rw [lcW]; exact fun z => h ((lc_lt x y).mp z) : ¬ lcmpW x y < 0)
  exact ⟨(if0 _ _).trans q.1, (if0 _ _).trans q.2.1⟩
theorem own_lgt {x y : Int64} (h : y < x) : ifCond.holds .gt (lcmpW x y) = true ∧ ifCond.holds .le (lcmpW x y) = false := by
  have q := tlt (by rw [lcW]; exact (lc_gt x y).mpr h : 0 < lcmpW x y)
  exact ⟨(if0 _ _).trans q.2.2.1, (if0 _ _).trans q.2.2.2⟩
theorem own_lle {x y : Int64} (h : ¬ y < x) : ifCond.holds .gt (lcmpW x y) = false ∧ ifCond.holds .le (lcmpW x y) = true := by
  have q := flt (by rw [lcW]; exact fun z => h ((lc_gt x y).mp z) : ¬ 0 < lcmpW x y)
  exact ⟨(if0 _ _).trans q.2.2.1, (if0 _ _).trans q.2.2.2⟩
theorem own_leq {x y : Int64} (h : x = y) : ifCond.holds .eq (lcmpW x y) = true ∧ ifCond.holds .ne (lcmpW x y) = false := by
  have q := teq (by rw [lcW]; exact (lc_eq x y).mpr h : lcmpW x y = 0)
  exact ⟨(if0 _ _).trans q.1, (if0 _ _).trans q.2⟩
theorem own_lne {x y : Int64} (h : ¬ x = y) : ifCond.holds .eq (lcmpW x y) = false ∧ ifCond.holds .ne (lcmpW x y) = true := by
  have q := feq (by rw [lcW]; exact fun z => h ((lc_eq x y).mp z) : ¬ lcmpW x y = 0)
  exact ⟨(if0 _ _).trans q.1, (if0 _ _).trans q.2⟩
theorem own_ci (x : Int32) : -65535 ≤ (x % (65536 : Int32)).toInt ∧ (x % (65536 : Int32)).toInt ≤ 65535 := by
  have h := c_irem x 65536 65536 (by decide)
  by_cases q : 0 ≤ x.toInt
  · rw [h.1 q]; omega
  · rw [h.2 (by omega)]; omega
theorem own_ct (x : Int32) : -1073741823 ≤ (x % (1073741824 : Int32)).toInt ∧ (x % (1073741824 : Int32)).toInt ≤ 1073741823 := by
  have h := c_irem x 1073741824 1073741824 (by decide)
  by_cases q : 0 ≤ x.toInt
  · rw [h.1 q]; omega
  · rw [h.2 (by omega)]; omega
theorem own_cu (x : Int32) : (x &&& (3 : Int32)) = 0 ∨ (x &&& (3 : Int32)) = 1 ∨ (x &&& (3 : Int32)) = 2 ∨ (x &&& (3 : Int32)) = 3 := by
  have h := c_mask x 3 2 (by decide) (by decide)
  have h2 : (x &&& (3 : Int32)).toInt = 0 ∨ (x &&& (3 : Int32)).toInt = 1 ∨ (x &&& (3 : Int32)).toInt = 2 ∨ (x &&& (3 : Int32)).toInt = 3 := by
    rw [h]; simp only [Nat.reducePow]; omega
  rcases h2 with q | q | q | q
  · exact Or.inl (Int32.toInt_inj.mp q)
  · exact Or.inr (Or.inl (Int32.toInt_inj.mp q))
  · exact Or.inr (Or.inr (Or.inl (Int32.toInt_inj.mp q)))
  · exact Or.inr (Or.inr (Or.inr (Int32.toInt_inj.mp q)))
theorem own_m1 {a b : Int64} (a1 : -65535 ≤ a.toInt) (a2 : a.toInt ≤ 65535) (b1 : 1 ≤ b.toInt) (b2 : b.toInt ≤ 5) : FP.dmul (FP.l2d a) (FP.l2d b) = FP.l2d (a * b) := by
  have z0 : (0 : Int64).toInt = 0 := rfl
  refine dmul_k (A := 65535) (B := 5) a1 a2 (by omega) b2 (by omega) (by omega) (by omega) ?_ ?_
  · rintro ⟨-, q⟩; rw [Int64.lt_iff_toInt_lt, z0] at q; omega
  · rintro ⟨q, -⟩; rw [q, z0] at b1; omega
theorem own_mt {a b : Int64} (a1 : -65535 ≤ a.toInt) (a2 : a.toInt ≤ 65535) (b1 : 1 ≤ b.toInt) (b2 : b.toInt ≤ 5) : -327675 ≤ (a * b).toInt ∧ (a * b).toInt ≤ 327675 := by
  have h := mc a1 a2 b1 b2
  have c := c_lmul a b
  have r := rng64 (a * b)
  generalize a.toInt * b.toInt = p at h c
  have hp : -327675 ≤ p ∧ p ≤ 327675 := by clear c r; omega
  clear h
  omega
theorem own_m2 {a b : Int64} (a1 : -327675 ≤ a.toInt) (a2 : a.toInt ≤ 327675) (b1 : -2147483646 ≤ b.toInt) (b2 : b.toInt ≤ 2147483646) : Jvm.Free.Fl.NoNaN64 (FP.dmul (FP.l2d a) (FP.l2d b)) ∧ cmpValue (FP.dcmp (FP.dmul (FP.l2d a) (FP.l2d b)) (FP.l2d (a * b))) .l = 0 := by
  have ha : B53 a := ⟨by omega, by omega⟩
  have hb : B53 b := ⟨by omega, by omega⟩
  by_cases q : a = 0 ∨ b = 0
  · have e : a * b = 0 := by rcases q with rfl | rfl <;> simp
    rw [dmul_z ha hb q, e]
    split
    · exact ⟨by unfold Jvm.Free.Fl.NoNaN64; decide +kernel, by decide +kernel⟩
    · exact ⟨nn_w rfl, dcmpV_self (nn_w rfl) _⟩
  · have h := mc a1 a2 b1 b2
    have e := dmul_w ha hb (fun z => q (Or.inl z)) (fun z => q (Or.inr z)) (by omega) (by omega)
    rw [e]
    exact ⟨nn_w rfl, dcmpV_self (nn_w rfl) _⟩
theorem own_wc1 {u : Int32} (hu : u = 0 ∨ u = 1 ∨ u = 2 ∨ u = 3) : 1 ≤ ((1 : Int32) + u).toInt64.toInt ∧ ((1 : Int32) + u).toInt64.toInt ≤ 5 := by rcases hu with rfl | rfl | rfl | rfl <;> decide
theorem own_wc2 {u : Int32} (hu : u = 0 ∨ u = 1 ∨ u = 2 ∨ u = 3) : 1 ≤ ((2 : Int32) + u).toInt64.toInt ∧ ((2 : Int32) + u).toInt64.toInt ≤ 5 := by rcases hu with rfl | rfl | rfl | rfl <;> decide
theorem own_ad {a b : Int64} (a1 : -1073741823 ≤ a.toInt) (a2 : a.toInt ≤ 1073741823) (b1 : -1073741823 ≤ b.toInt) (b2 : b.toInt ≤ 1073741823) : FP.dadd (FP.l2d a) (FP.l2d b) = FP.l2d (a + b) ∧ -2147483646 ≤ (a + b).toInt ∧ (a + b).toInt ≤ 2147483646 := by
  have ha : B53 a := ⟨by omega, by omega⟩
  have hb : B53 b := ⟨by omega, by omega⟩
  exact ⟨dadd_w ha hb, by rw [add64 ha hb]; omega, by rw [add64 ha hb]; omega⟩
theorem own_metW {l : Launch} {y : MethodName} {bytes : ByteArray} {ml : Nat} {ret : Option FieldType} {ws : List Jvm.Cond} {rm : Room} {as' : Array Value} {Z : State} {k n : Nat} {Q : Option Value → Heap → List Loc → Prop} (hp : plainFor y = true)
    (body : ∀ (p : Program) (e : Env) (m : MethodId) (below : List Frame) (meth : Method) (c : Code) (s₁ : State) (K : State → Prop), p.tables.exec = Jvm.exec → c.code = bytes → c.maxLocals = ml → Z.vm.findClass y.cls = some m.cls → meth.name = y.name → meth.sig.returnType = ret →
      Stand p l e rm Z m as' below meth c s₁ [] 0 0 → s₁.heap = Z.heap →
      (∀ (v : Option Value) {T : State} {L : List Loc} {k' n' n1 : Nat} {vm1 : Vm}, Stand p l e rm (Z.setVm vm1) m as' below meth c T L k' n' → Z.Since vm1 n1 → n1 ≤ T.heap.size → (meth.sig.returnType = none → v = none) → Q v T.heap L → k' ≤ k → n' ≤ n → own_Out e m K T v) →
      own_Go p.tables e below K (s₁.setTop (entryFrame m as' ml))) :
    MetFree l y (head1 (Jvm.Cond.code y bytes ml ret :: ws) rm) (fun a U => a = as' ∧ U = Z) (fun _ _ _ _ _ => True) (fun _ U o U' => ∃ v L, o = .returned v ∧ Q v U'.heap L ∧ ReturnedEndW U o U' L k n) := by
  refine MetFree.of_bodySF hp hisR ?_
  intro p e s m args below meth c s₁ Bd hml0 hP hK
  obtain ⟨rfl, rfl⟩ := hP
  have hown : s.vm.findClass y.cls = some m.cls := findClass_of_methodNamed Bd.named
  obtain ⟨t, hs, o, h1, h2, h3⟩ := body p e m below meth c s₁ (fun t => ∃ o, t.status = .running ∧ Ended t below o ∧ ∃ v L, o = .returned v ∧ Q v t.heap L ∧ ReturnedEndW s o t L k n) Bd.exec Bd.bytes hml0 hown (name_of_methodNamed Bd.named Bd.method).1 Bd.returns (Stand.of_body Bd) (by rw [Bd.state]; rfl) (by
    intro v T L k' n' n1 vm1 X hS hn1 hv hq hk hn
    obtain ⟨fs, hr, hrun, hended, hE⟩ := X.leaveW hS hn1 (v := v) hv
    exact ⟨fs, hr, _, hrun, hended, v, L, rfl, hq, hE.1, hE.2.1, hE.2.2.1, hE.2.2.2.mono hk hn⟩)
  exact ⟨t, o, hs, h1, h2, h3⟩
/-- an Object[] of the length z that holds vs -/
def own_Ar (Z : State) (h : Heap) (a : Addr) (k : ClassId) (z : Int32) (vs : List Value) : Prop := Arv Z h a k (.object "java/lang/Object") z vs .null ∧ Exa Z h a "[Ljava/lang/Object;" ∧ Ovr Z k "java/lang/Object"
theorem own_Ar.ext {Z : State} {h h' : Heap} {a : Addr} {k : ClassId} {z : Int32} {vs : List Value} (F : own_Ar Z h a k z vs) (E : Ext h h') : own_Ar Z h' a k z vs := ⟨F.1.ext E, F.2.1.ext E, F.2.2⟩
theorem own_Ar.keep {Z : State} {h h' : Heap} {a : Addr} {k : ClassId} {z : Int32} {vs : List Value} {ws : List Addr} (F : own_Ar Z h a k z vs) (K : Keep h h' ws) (q : a ∉ ws) : own_Ar Z h' a k z vs := ⟨F.1.keep K q, F.2.1.keep K, F.2.2⟩
theorem own_Ar.other {Z : State} {h h' : Heap} {a b : Addr} {k : ClassId} {z : Int32} {vs : List Value} {sl : Nat} {v : Value} (F : own_Ar Z h a k z vs) (W : Wr h h' b sl v) (q : a ≠ b) : own_Ar Z h' a k z vs := ⟨F.1.other W q, F.2.1.wr W, F.2.2⟩
theorem own_Ar.lt {Z : State} {h : Heap} {a : Addr} {k : ClassId} {z : Int32} {vs : List Value} (F : own_Ar Z h a k z vs) : a < h.size := F.1.lt
theorem own_Ar.ne {Z : State} {h : Heap} {a x : Addr} {k : ClassId} {z : Int32} {vs : List Value} {C : String} {a0 : Array Value} {n : Nat} (E : Exa Z h x C) (F : own_Ar Z h a k z vs) (w : (Jvm.Cond.instantiable C n).before a0 Z = true) : x ≠ a := by obtain ⟨⟨cl, A, -⟩, -⟩ := F; exact ne_arr E w A
/-- an Object[] of the length n -/
def own_len (Z : State) (h : Heap) (a : Addr) (n : Int32) : Prop := ∃ cl : Cell, Arr Z h a cl (.object "java/lang/Object") ∧ cl.slots.size.toInt32 = n
theorem own_len.keep {Z : State} {h h' : Heap} {a : Addr} {n : Int32} {ws : List Addr} (F : own_len Z h a n) (K : Keep h h' ws) : own_len Z h' a n := by
  obtain ⟨cl, ⟨h1, h2, h3⟩, r⟩ := F
  obtain ⟨c', q, e1, e2, e3⟩ := K.2.2 _ _ h1
  exact ⟨c', ⟨q, ⟨by rw [e2]; exact h2.1, by rw [e1]; exact h2.2⟩, by rw [e2]; exact h3⟩, by rw [e3]; exact r⟩
theorem own_len.ext {Z : State} {h h' : Heap} {a : Addr} {n : Int32} (F : own_len Z h a n) (E : Ext h h') : own_len Z h' a n := by obtain ⟨cl, A, r⟩ := F; exact ⟨cl, A.ext E, r⟩
theorem own_Ar.len {Z : State} {h : Heap} {a : Addr} {k : ClassId} {z : Int32} {vs : List Value} (F : own_Ar Z h a k z vs) : own_len Z h a z := by obtain ⟨⟨cl, A, -, S, M, -⟩, -⟩ := F; exact ⟨cl, A, len_of S M⟩
/-- the array under a list of n elements, each of them w -/
def own_Vs (Z : State) (h : Heap) (a w : Addr) (n : Int32) : Prop := (n = 0 ∧ own_len Z h a 0) ∨ (n = 1 ∧ ∃ k, own_Ar Z h a k 10 [(.ref w), .null, .null, .null, .null, .null, .null, .null, .null, .null] ∧ Exa Z h w "com/example/skyroster/skyroster/UsedWindow") ∨ (n = 2 ∧ ∃ k, own_Ar Z h a k 10 [(.ref w), (.ref w), .null, .null, .null, .null, .null, .null, .null, .null] ∧ Exa Z h w "com/example/skyroster/skyroster/UsedWindow") ∨ (n = 3 ∧ ∃ k, own_Ar Z h a k 10 [(.ref w), (.ref w), (.ref w), .null, .null, .null, .null, .null, .null, .null] ∧ Exa Z h w "com/example/skyroster/skyroster/UsedWindow")
theorem own_Vs.ext {Z : State} {h h' : Heap} {a w : Addr} {n : Int32} (F : own_Vs Z h a w n) (E : Ext h h') : own_Vs Z h' a w n := by
  rcases F with ⟨q, A⟩ | ⟨q, k, A, E9⟩ | ⟨q, k, A, E9⟩ | ⟨q, k, A, E9⟩
  · exact Or.inl ⟨q, A.ext E⟩
  · exact Or.inr (Or.inl ⟨q, k, A.ext E, E9.ext E⟩)
  · exact Or.inr (Or.inr (Or.inl ⟨q, k, A.ext E, E9.ext E⟩))
  · exact Or.inr (Or.inr (Or.inr (⟨q, k, A.ext E, E9.ext E⟩)))
theorem own_Vs.keep {Z : State} {h h' : Heap} {a w : Addr} {n : Int32} {ws : List Addr} (F : own_Vs Z h a w n) (K : Keep h h' ws) (r : a ∉ ws) : own_Vs Z h' a w n := by
  rcases F with ⟨q, A⟩ | ⟨q, k, A, E9⟩ | ⟨q, k, A, E9⟩ | ⟨q, k, A, E9⟩
  · exact Or.inl ⟨q, A.keep K⟩
  · exact Or.inr (Or.inl ⟨q, k, A.keep K r, E9.keep K⟩)
  · exact Or.inr (Or.inr (Or.inl ⟨q, k, A.keep K r, E9.keep K⟩))
  · exact Or.inr (Or.inr (Or.inr (⟨q, k, A.keep K r, E9.keep K⟩)))
theorem own_Vs.other {Z : State} {h h' : Heap} {a b w : Addr} {n : Int32} {sl : Nat} {v : Value} (F : own_Vs Z h a w n) (W : Wr h h' b sl v) (q : a ≠ b) : own_Vs Z h' a w n := F.keep (Keep.of_wr W) (ninS q nin0)
theorem own_Vs.lenn {Z : State} {h : Heap} {a w : Addr} {n : Int32} (F : own_Vs Z h a w n) : ∃ z, own_len Z h a z := by
  rcases F with ⟨q, A⟩ | ⟨q, k, A, E9⟩ | ⟨q, k, A, E9⟩ | ⟨q, k, A, E9⟩
  · exact ⟨_, A⟩
  all_goals exact ⟨_, A.len⟩
theorem own_Vs.lt {Z : State} {h : Heap} {a w : Addr} {n : Int32} (F : own_Vs Z h a w n) : a < h.size := by obtain ⟨z, cl, A, -⟩ := F.lenn; exact A.lt
theorem own_Vs.ne {Z : State} {h : Heap} {a x w : Addr} {z : Int32} {C : String} {a0 : Array Value} {n : Nat} (E : Exa Z h x C) (F : own_Vs Z h a w z) (i : (Jvm.Cond.instantiable C n).before a0 Z = true) : x ≠ a := by obtain ⟨z, cl, A, -⟩ := F.lenn; exact ne_arr E i A
def own_AL (Z : State) (h : Heap) (a el : Addr) (n mc : Int32) : Prop := Exa Z h a "java/util/ArrayList" ∧ Fld Z h a "java/util/AbstractList" "modCount" "I" (.int mc) ∧ Fld Z h a "java/util/ArrayList" "elementData" "[Ljava/lang/Object;" (.ref el) ∧ Fld Z h a "java/util/ArrayList" "size" "I" (.int n)
/-- a list that copyOf made, of the size n -/
def own_SZ (Z : State) (h : Heap) (a em : Addr) (n : Int32) : Prop := (Exa Z h a "java/util/ImmutableCollections$ListN" ∧ ∃ e, Fld Z h a "java/util/ImmutableCollections$ListN" "elements" "[Ljava/lang/Object;" (.ref e) ∧ own_len Z h e n) ∨ (Exa Z h a "java/util/ImmutableCollections$List12" ∧ ∃ e, Fld Z h a "java/util/ImmutableCollections$List12" "e1" "Ljava/lang/Object;" (.ref e) ∧ ((n = 1 ∧ e = em) ∨ (n = 2 ∧ ¬ e = em)))
theorem own_SZ.keep {Z : State} {h h' : Heap} {a em : Addr} {n : Int32} {ws : List Addr} (F : own_SZ Z h a em n) (K : Keep h h' ws) (r : a ∉ ws) : own_SZ Z h' a em n := by
  rcases F with ⟨E, x, G, A⟩ | ⟨E, x, G, q⟩
  · exact Or.inl ⟨E.keep K, x, G.keep K r, A.keep K⟩
  · exact Or.inr ⟨E.keep K, x, G.keep K r, q⟩
theorem own_SZ.ext {Z : State} {h h' : Heap} {a em : Addr} {n : Int32} (F : own_SZ Z h a em n) (X : Ext h h') : own_SZ Z h' a em n := by
  rcases F with ⟨E, x, G, A⟩ | ⟨E, x, G, q⟩
  · exact Or.inl ⟨E.ext X, x, G.ext X, A.ext X⟩
  · exact Or.inr ⟨E.ext X, x, G.ext X, q⟩
theorem own_SZ.other {Z : State} {h h' : Heap} {a b em : Addr} {n : Int32} {sl : Nat} {v : Value} (F : own_SZ Z h a em n) (W : Wr h h' b sl v) (q : a ≠ b) : own_SZ Z h' a em n := F.keep (Keep.of_wr W) (ninS q nin0)
theorem own_SZ.lt {Z : State} {h : Heap} {a em : Addr} {n : Int32} (F : own_SZ Z h a em n) : a < h.size := by rcases F with ⟨E, -⟩ | ⟨E, -⟩ <;> exact E.lt
theorem own_SZ.ne {Z : State} {h : Heap} {a x em : Addr} {n : Int32} {C : String} (E : Exa Z h x C) (F : own_SZ Z h a em n) (q1 : C ≠ "java/util/ImmutableCollections$ListN") (q2 : C ≠ "java/util/ImmutableCollections$List12") : x ≠ a := by
  rcases F with ⟨G, -⟩ | ⟨G, -⟩
  · exact Exa.ne E G q1
  · exact Exa.ne E G q2
/-- the Class object of Object[] -/
def own_Mi (Z : State) (mr : Addr) : Prop := ∃ (c : ClassId) (k : Class), Z.vm.findClass "[Ljava/lang/Object;" = some c ∧ Z.vm.classes[c]? = some k ∧ k.mirror = some mr
/-- what lies there before the law: the collections' own constants -/
def own_St (Z : State) (dd lz ez em mr : Addr) : Prop := Sta Z Z.heap "java/util/ArrayList" "DEFAULTCAPACITY_EMPTY_ELEMENTDATA" "[Ljava/lang/Object;" (.ref dd) ∧ own_len Z Z.heap dd 0 ∧ Sta Z Z.heap "java/util/ImmutableCollections" "EMPTY_LIST" "Ljava/util/ImmutableCollections$ListN;" (.ref lz) ∧ Exa Z Z.heap lz "java/util/ImmutableCollections$ListN" ∧ Fld Z Z.heap lz "java/util/ImmutableCollections$ListN" "elements" "[Ljava/lang/Object;" (.ref ez) ∧ own_len Z Z.heap ez 0 ∧ Sta Z Z.heap "java/util/ImmutableCollections" "EMPTY" "Ljava/lang/Object;" (.ref em) ∧ Exa Z Z.heap em "java/lang/Object" ∧ own_Mi Z mr
theorem own_mvMN {Z s : State} {a0 args : Array Value} {own host : String} {index : Nat} {y : MethodName} (hZ : Z.Warmed39 s.vm) (w : (Jvm.Cond.methodLinkNest own index y host).before a0 Z = true) : (Jvm.Cond.methodLinkNest own index y host).before args s = true := (Cond.methodLinkNest_wide hZ w :)
theorem own_noI {Z : State} {a0 : Array Value} {K : String} {n : Nat} (w1 : (Jvm.Cond.superclass "java/util/ArrayList" "java/util/AbstractList").before a0 Z = true) (w2 : (Jvm.Cond.superclass "java/util/AbstractList" "java/util/AbstractCollection").before a0 Z = true) (w3 : (Jvm.Cond.superclass "java/util/AbstractCollection" "java/lang/Object").before a0 Z = true) (w4 : (Jvm.Cond.noSuperclass "java/lang/Object").before a0 Z = true) (w5 : (Jvm.Cond.instantiable K n).before a0 Z = true)
    (hn : K ∉ ["java/util/ArrayList", "java/util/AbstractList", "java/util/AbstractCollection", "java/lang/Object"]) : ∃ c t, Z.vm.findClass "java/util/ArrayList" = some c ∧ Z.vm.findClass K = some t ∧ Z.vm.assignable c t = false := by
  obtain ⟨t, k, h1, h2, h3, h4, -⟩ := Cond.instantiable_spec w5
  obtain ⟨c, hc⟩ := found_sup w1
  refine ⟨c, t, hc, h1, Vm.notAssignable_of_chain (args := a0) (t := ["java/util/AbstractList", "java/util/AbstractCollection", "java/lang/Object"]) hc h1 h2 h3 (by simp only [Bool.or_eq_false_iff] at h4; exact h4.1) ?_ hn⟩
  intro w hm
  simp only [Cond.chainWords, List.mem_cons, List.not_mem_nil, or_false] at hm
  rcases hm with rfl | rfl | rfl | rfl
  · exact w1
  · exact w2
  · exact w3
  · exact w4
theorem own_noF {Z : State} {a0 : Array Value} {K : String} {xi : MethodName} {n d : String} (w1 : (Jvm.Cond.superclass "java/util/ArrayList" "java/util/AbstractList").before a0 Z = true) (w2 : (Jvm.Cond.superclass "java/util/AbstractList" "java/util/AbstractCollection").before a0 Z = true) (w3 : (Jvm.Cond.superclass "java/util/AbstractCollection" "java/lang/Object").before a0 Z = true) (w4 : (Jvm.Cond.noSuperclass "java/lang/Object").before a0 Z = true) (w5 : (Jvm.Cond.selects K xi ⟨K, n, d⟩).before a0 Z = true)
    (hn : K ∉ ["java/util/ArrayList", "java/util/AbstractList", "java/util/AbstractCollection", "java/lang/Object"]) : ∃ c t, Z.vm.findClass "java/util/ArrayList" = some c ∧ Z.vm.findClass K = some t ∧ Z.vm.assignable c t = false := by
  obtain ⟨t, r, m, h1, -, h3, -, k, h4, h5⟩ := Cond.selects_spec w5
  have h6 : t = m.cls := Option.some.inj (h1.symm.trans (findClass_of_methodNamed h3))
  subst h6
  obtain ⟨c, hc⟩ := found_sup w1
  have hw : ∀ w ∈ Cond.chainWords ["java/util/ArrayList", "java/util/AbstractList", "java/util/AbstractCollection", "java/lang/Object"], w.before a0 Z = true := by
    intro w hm
    simp only [Cond.chainWords, List.mem_cons, List.not_mem_nil, or_false] at hm
    rcases hm with rfl | rfl | rfl | rfl
    · exact w1
    · exact w2
    · exact w3
    · exact w4
  obtain ⟨c', k', g1, g2, g3, -⟩ := Cond.chain_head hw
  cases hc.symm.trans g1
  have hne : c ≠ m.cls := Vm.findClass_ne hc h1 (fun e => hn (by simp [← e]))
  have hs := Cond.chain_notSub h1 _ _ c hc hw hn
  refine ⟨c, _, hc, h1, ?_⟩
  show Z.vm.assignableAux (255 + 1) c m.cls = false
  cases hk : k.kind <;> simp [Vm.assignableAux, hne, g2, h4, g3, hk, h5, Vm.isSubclass, hs]
section OwnMir
variable {p : Program} {l : Launch} {e : Env} {R : Room} {s : State} {m : MethodId} {args : Array Value} {below : List Frame} {meth : Method} {c : Code} {T : State} {locs : List Loc} {cells slots : Nat} {Z : State} {h : Heap}
theorem own_ldcM (X : Stand p l e R s m args below meth c T locs cells slots) (hx : p.tables.exec = Jvm.exec) (hZ : Z.Warmed39 s.vm) {a0 : Array Value} {own : String} {index : Nat} (hown : s.vm.findClass own = some m.cls) (w : (Jvm.Cond.classLink own index "[Ljava/lang/Object;").before a0 Z = true) {mr : Addr} (M : own_Mi Z mr) (eT : T.heap = h)
    {g : JFrame} (hg : g.method = m) (hd : decode c.code g.pc = .ok (.ldc index, 2)) : ∃ T', Stand p l e R s m args below meth c T' locs cells slots ∧ T'.heap = h ∧ ∀ target, Steps p.tables e below (T'.setTop { g with pc := g.pc + 2, stack := .ref mr :: g.stack }) target → Steps p.tables e below (T.setTop g) target := by
  obtain ⟨cc, k, m1, m2, m3⟩ := M
  obtain ⟨k', q, ek⟩ := hZ.alike.2.2 _ _ m2
  have f1 : s.vm.findClass "[Ljava/lang/Object;" = some cc := by rw [hZ.alike.findClass]; exact m1
  have f3 : k'.mirror = some mr := by rw [ek]; exact m3
  obtain ⟨vm', X', st⟩ := X.ldcMirror hx hown (mvT hZ w) (a := mr) (by simp [Term.eval, f1, q, f3]) hg hd
  exact ⟨_, X', eT, st⟩
theorem own_gcls (X : Stand p l e R s m args below meth c T locs cells slots) (hx : p.tables.exec = Jvm.exec) (hZ : Z.Warmed39 s.vm) {a0 : Array Value} {own : String} {index : Nat} (hown : s.vm.findClass own = some m.cls)
    (w1 : (Jvm.Cond.methodLink own index Stand.gcN).before a0 Z = true) (w2 : (Jvm.Cond.declares Stand.gcN).before a0 Z = true) (w3 : (Jvm.Cond.noSuperclass "java/lang/Object").before a0 Z = true) (w4 : (Jvm.Cond.selects "[Ljava/lang/Object;" Stand.gcN Stand.gcN).before a0 Z = true) (w5 : (Jvm.Cond.instanceMethod Stand.gcN).before a0 Z = true) (w6 : (Jvm.Cond.native Stand.gcN).before a0 Z = true)
    (eT : T.heap = h) {a : Addr} (E : Exa Z h a "[Ljava/lang/Object;") {mr : Addr} (M : own_Mi Z mr) {g : JFrame} (hg : g.method = m) (hsize : g.locals.size = c.maxLocals) {rest : List Value} (hs : g.stack = .ref a :: rest) (hd : decode c.code g.pc = .ok (.invokevirtual index, 3)) (hf : 1 ≤ R.frames) {W : Nat} (hW : 2 * g.monitorRoom + (rest.map fun v => v.category).sum ≤ W) (hl : W + (nativeFrameWords "java/lang/Object" "getClass" 1 + 11) ≤ R.locals) :
    ∃ T', Stand p l e R s m args below meth c T' locs cells slots ∧ T'.heap = h ∧ ∀ target, Steps p.tables e below (T'.setTop { g with pc := g.pc + 3, stack := .ref mr :: rest }) target → Steps p.tables e below (T.setTop g) target := by
  obtain ⟨cB, kB, i1, i2, i3⟩ := isOf hZ eT E
  obtain ⟨cc, kc, m1, m2, m3⟩ := M
  have f1 : s.vm.findClass "[Ljava/lang/Object;" = some cc := by rw [hZ.alike.findClass]; exact m1
  obtain rfl : cB = cc := Option.some.inj (i1.symm.trans f1)
  obtain ⟨k', q, ek⟩ := hZ.alike.2.2 _ _ m2
  obtain ⟨vm', X', st⟩ := X.getClassOf hx hown (mvT hZ w1) (mvT hZ w2) (nf_top (args := #[]) (mvT hZ w3)) (mvT hZ w4) (mvT hZ w5) (mvT hZ w6) f1 i3 q (by rw [ek]; exact m3) hg hsize hs hd hf (by omega)
  exact ⟨_, X', eT, st⟩
end OwnMir
def own_mxI (a b : Int32) : Int32 := if a < b then b else a
def own_mnI (a b : Int32) : Int32 := if b < a then b else a
def own_zI (a : Int32) : Int32 := if a = 0 then 1 else 0
def own_CS (Z : State) (h : Heap) (a : Addr) (dc : UInt64) (u c : Int32) (ds co : UInt64) : Prop := Exa Z h a "com/example/skyroster/skyroster/CostShare" ∧ Fld Z h a "com/example/skyroster/skyroster/CostShare" "coefficient" "D" (.double dc) ∧ Fld Z h a "com/example/skyroster/skyroster/CostShare" "usedCount" "I" (.int u) ∧ Fld Z h a "com/example/skyroster/skyroster/CostShare" "taskCount" "I" (.int c) ∧ Fld Z h a "com/example/skyroster/skyroster/CostShare" "taskCostSum" "D" (.double ds) ∧ Fld Z h a "com/example/skyroster/skyroster/CostShare" "cost" "D" (.double co)
theorem own_retD {p : Program} {l : Launch} {e : Env} {R : Room} {s : State} {m : MethodId} {args : Array Value} {below : List Frame} {meth : Method} {c : Code} {T : State} {locs : List Loc} {cells slots : Nat} {K : State → Prop} (X : Stand p l e R s m args below meth c T locs cells slots) (hx : p.tables.exec = Jvm.exec) (hret : meth.sig.returnType = some .double) {pc : Nat} {Ls : Array Slot} {z : UInt64} {rest : List Value} (hd : decode c.code pc = .ok (.dreturn, 1)) (hq : own_Out e m K T (some (.double z))) : own_Go p.tables e below K (T.setTop (mkF m pc Ls (.double z :: rest))) := by
  obtain ⟨fs, hr, hk⟩ := hq
  exact ⟨_, retOut X hx hret rfl (Or.inr (Or.inr (Or.inl ⟨rfl, rfl, _, rfl⟩))) hd hr, hk⟩
theorem own_pn6 : plainName "java/util/AbstractCollection" = true := by first | (simp [plainName, overriddenIn]; done) | decide +kernel
theorem own_d6_0 : decode jdk_22_method_1_code 0 = .ok (.aload_n 0, 1) := by decide +kernel
theorem own_d6_1 : decode jdk_22_method_1_code 1 = .ok (.invokespecial 1, 3) := by decide +kernel
theorem own_d6_4 : decode jdk_22_method_1_code 4 = .ok (.return_, 1) := by decide +kernel
theorem own_efaci (m : MethodId) (a1 : Addr) : entryFrame m #[(.ref a1)] 1 = mkF m 0 #[.val (.ref a1)] [] := by first | (simp [entryFrame, mkF, argsToLocals, Value.category]; done) | rfl
def own_Qaci (Z : State) (a1 : Addr) (h0 : Heap) (n0 : Nat) (v : Option Value) (h : Heap) (L : List Loc) : Prop := v = none ∧ Fr n0 L ∧ h = h0
set_option maxRecDepth 65536 in
set_option maxHeartbeats 40000000 in
theorem own_rmaci (l : Launch) (Z : State) (aw : Array Value) (hw : ∀ d ∈ tables_1, d.before aw Z = true) (ws : List Jvm.Cond) (a1 : Addr) (h0 : Heap) (n0 : Nat) (Z0 : n0 ≤ h0.size)  :
    MetFree l (⟨"java/util/AbstractCollection", "<init>", "()V"⟩ : MethodName) (head1 (Jvm.Cond.code (⟨"java/util/AbstractCollection", "<init>", "()V"⟩ : MethodName) jdk_22_method_1_code 1 none :: ws) ({ frames := 1, cells := 0, slots := 0, locals := 12 } : Room)) (fun a U => a = #[(.ref a1)] ∧ Z.Warmed39 U.vm ∧ U.heap = h0) (fun _ _ _ _ _ => True) (fun _ U o U' => ∃ v L, o = .returned v ∧ own_Qaci Z a1 h0 n0 v U'.heap L ∧ FrameEnd U o U' L ({ frames := 1, cells := 0, slots := 0, locals := 12 } : Room).cells ({ frames := 1, cells := 0, slots := 0, locals := 12 } : Room).slots) := by
  refine own_met (Q := own_Qaci Z a1 h0 n0) (plainFor_of_name own_pn6) ?_
  intro p e s m below meth c s₁ K hx hby hml hown hnm hret hZ X0 e0 hK
  have hown : s.vm.findClass "java/util/AbstractCollection" = some m.cls := hown
  have hnm : meth.name = "<init>" := hnm
  have N0 := Fr.nil n0
  refine own_by (fun t k => castTop (own_efaci m a1) k) ?_
  show own_Go p.tables e below K (s₁.setTop (mkF m 0 #[.val (.ref a1)] []))
  refine own_by (fun t k => XS.aloadN X0.here hx rfl (hb hby own_d6_0) rfl rfl k) ?_
  show own_Go p.tables e below K (s₁.setTop (mkF m 1 #[.val (.ref a1)] [(.ref a1)]))
  obtain ⟨T1, X1, e1, st1⟩ := initO X0 hx hZ hown (hw _ (List.mem_of_getElem? (i := 40) rfl)) (hw _ (List.mem_of_getElem? (i := 14) rfl)) (hw _ (List.mem_of_getElem? (i := 15) rfl)) e0 (g := (mkF m 1 #[.val (.ref a1)] [(.ref a1)])) rfl (by rw [hml]; rfl) rfl (hb hby own_d6_1) (by decide) (W := 0) (by show 2 * 0 + _ ≤ _; exact Nat.le_of_eq rfl) (by decide)
  refine own_by st1 ?_
  show own_Go p.tables e below K (T1.setTop (mkF m 4 #[.val (.ref a1)] []))
  exact own_retV X1 hx hret (hb hby own_d6_4) (hK none X1 (fun _ => rfl) (⟨rfl, N0, e1⟩) (by decide) (by decide))
theorem own_pn2 : plainName "java/lang/Record" = true := by first | (simp [plainName, overriddenIn]; done) | decide +kernel
theorem own_d2_0 : decode jdk_30_method_1_code 0 = .ok (.aload_n 0, 1) := by decide +kernel
theorem own_d2_1 : decode jdk_30_method_1_code 1 = .ok (.invokespecial 1, 3) := by decide +kernel
theorem own_d2_4 : decode jdk_30_method_1_code 4 = .ok (.return_, 1) := by decide +kernel
theorem own_efrci (m : MethodId) (a1 : Addr) : entryFrame m #[(.ref a1)] 1 = mkF m 0 #[.val (.ref a1)] [] := by first | (simp [entryFrame, mkF, argsToLocals, Value.category]; done) | rfl
def own_Qrci (Z : State) (a1 : Addr) (h0 : Heap) (n0 : Nat) (v : Option Value) (h : Heap) (L : List Loc) : Prop := v = none ∧ Fr n0 L ∧ h = h0
set_option maxRecDepth 65536 in
set_option maxHeartbeats 40000000 in
theorem own_rmrci (l : Launch) (Z : State) (aw : Array Value) (hw : ∀ d ∈ tables_1, d.before aw Z = true) (ws : List Jvm.Cond) (a1 : Addr) (h0 : Heap) (n0 : Nat) (Z0 : n0 ≤ h0.size)  :
    MetFree l (⟨"java/lang/Record", "<init>", "()V"⟩ : MethodName) (head1 (Jvm.Cond.code (⟨"java/lang/Record", "<init>", "()V"⟩ : MethodName) jdk_30_method_1_code 1 none :: ws) ({ frames := 1, cells := 0, slots := 0, locals := 12 } : Room)) (fun a U => a = #[(.ref a1)] ∧ Z.Warmed39 U.vm ∧ U.heap = h0) (fun _ _ _ _ _ => True) (fun _ U o U' => ∃ v L, o = .returned v ∧ own_Qrci Z a1 h0 n0 v U'.heap L ∧ FrameEnd U o U' L ({ frames := 1, cells := 0, slots := 0, locals := 12 } : Room).cells ({ frames := 1, cells := 0, slots := 0, locals := 12 } : Room).slots) := by
  refine own_met (Q := own_Qrci Z a1 h0 n0) (plainFor_of_name own_pn2) ?_
  intro p e s m below meth c s₁ K hx hby hml hown hnm hret hZ X0 e0 hK
  have hown : s.vm.findClass "java/lang/Record" = some m.cls := hown
  have hnm : meth.name = "<init>" := hnm
  have N0 := Fr.nil n0
  refine own_by (fun t k => castTop (own_efrci m a1) k) ?_
  show own_Go p.tables e below K (s₁.setTop (mkF m 0 #[.val (.ref a1)] []))
  refine own_by (fun t k => XS.aloadN X0.here hx rfl (hb hby own_d2_0) rfl rfl k) ?_
  show own_Go p.tables e below K (s₁.setTop (mkF m 1 #[.val (.ref a1)] [(.ref a1)]))
  obtain ⟨T2, X2, e2, st2⟩ := initO X0 hx hZ hown (hw _ (List.mem_of_getElem? (i := 13) rfl)) (hw _ (List.mem_of_getElem? (i := 14) rfl)) (hw _ (List.mem_of_getElem? (i := 15) rfl)) e0 (g := (mkF m 1 #[.val (.ref a1)] [(.ref a1)])) rfl (by rw [hml]; rfl) rfl (hb hby own_d2_1) (by decide) (W := 0) (by show 2 * 0 + _ ≤ _; exact Nat.le_of_eq rfl) (by decide)
  refine own_by st2 ?_
  show own_Go p.tables e below K (T2.setTop (mkF m 4 #[.val (.ref a1)] []))
  exact own_retV X2 hx hret (hb hby own_d2_4) (hK none X2 (fun _ => rfl) (⟨rfl, N0, e2⟩) (by decide) (by decide))
theorem own_pd0 : parseMethodDescriptor "()V" = some ⟨[], none⟩ := by decide +kernel
theorem own_pn26 : plainName "java/util/ImmutableCollections$AbstractImmutableCollection" = true := by first | (simp [plainName, overriddenIn]; done) | decide +kernel
theorem own_d26_0 : decode jdk_47_method_1_code 0 = .ok (.aload_n 0, 1) := by decide +kernel
theorem own_d26_1 : decode jdk_47_method_1_code 1 = .ok (.invokespecial 1, 3) := by decide +kernel
theorem own_d26_4 : decode jdk_47_method_1_code 4 = .ok (.return_, 1) := by decide +kernel
theorem own_efaic (m : MethodId) (a1 : Addr) : entryFrame m #[(.ref a1)] 1 = mkF m 0 #[.val (.ref a1)] [] := by first | (simp [entryFrame, mkF, argsToLocals, Value.category]; done) | rfl
def own_Qaic (Z : State) (a1 : Addr) (h0 : Heap) (n0 : Nat) (v : Option Value) (h : Heap) (L : List Loc) : Prop := v = none ∧ Fr n0 L ∧ h = h0
set_option maxRecDepth 65536 in
set_option maxHeartbeats 40000000 in
theorem own_rmaic (l : Launch) (Z : State) (aw : Array Value) (hw : ∀ d ∈ tables_1, d.before aw Z = true) (ws : List Jvm.Cond) (a1 : Addr) (h0 : Heap) (n0 : Nat) (Z0 : n0 ≤ h0.size)  :
    MetFree l (⟨"java/util/ImmutableCollections$AbstractImmutableCollection", "<init>", "()V"⟩ : MethodName) (head1 (Jvm.Cond.code (⟨"java/util/ImmutableCollections$AbstractImmutableCollection", "<init>", "()V"⟩ : MethodName) jdk_47_method_1_code 1 none :: ws) ({ frames := 2, cells := 0, slots := 0, locals := 24 } : Room)) (fun a U => a = #[(.ref a1)] ∧ Z.Warmed39 U.vm ∧ U.heap = h0) (fun _ _ _ _ _ => True) (fun _ U o U' => ∃ v L, o = .returned v ∧ own_Qaic Z a1 h0 n0 v U'.heap L ∧ FrameEnd U o U' L ({ frames := 2, cells := 0, slots := 0, locals := 24 } : Room).cells ({ frames := 2, cells := 0, slots := 0, locals := 24 } : Room).slots) := by
  refine own_met (Q := own_Qaic Z a1 h0 n0) (plainFor_of_name own_pn26) ?_
  intro p e s m below meth c s₁ K hx hby hml hown hnm hret hZ X0 e0 hK
  have hown : s.vm.findClass "java/util/ImmutableCollections$AbstractImmutableCollection" = some m.cls := hown
  have hnm : meth.name = "<init>" := hnm
  have N0 := Fr.nil n0
  refine own_by (fun t k => castTop (own_efaic m a1) k) ?_
  show own_Go p.tables e below K (s₁.setTop (mkF m 0 #[.val (.ref a1)] []))
  refine own_by (fun t k => XS.aloadN X0.here hx rfl (hb hby own_d26_0) rfl rfl k) ?_
  show own_Go p.tables e below K (s₁.setTop (mkF m 1 #[.val (.ref a1)] [(.ref a1)]))
  obtain ⟨_, _, ⟨T3, L3, k3, n3⟩, -, X3, ⟨Lc3, hQ3, l3, y3, z3⟩, st3⟩ := X0.specialBack hx (y := (⟨"java/util/AbstractCollection", "<init>", "()V"⟩ : MethodName)) rfl hown (mvT hZ (hw _ (List.mem_of_getElem? (i := 178) rfl))) (mvT hZ (hw _ (List.mem_of_getElem? (i := 35) rfl))) (mvT hZ (hw _ (List.mem_of_getElem? (i := 39) rfl))) (by decide) (backOf (W := 0) (own_rmaci l Z aw hw [] a1 h0 n0 Z0) hZ (hw _ (List.mem_of_getElem? (i := 39) rfl)) (hw _ (List.mem_of_getElem? (i := 38) rfl)) (by decide) (by decide)) (g := (mkF m 1 #[.val (.ref a1)] [(.ref a1)])) rfl (by rw [hml]; rfl) (Steps.refl _) (a := a1) (argsL := []) (rest := []) (lenOf own_pd0 rfl) rfl (by show 2 * 0 + _ ≤ _; exact Nat.le_of_eq rfl) (hb hby own_d26_1) (fun _ _ => ⟨rfl, e0, (by decide : 0 + 0 ≤ _), (by decide : 0 + 0 ≤ _)⟩)
  dsimp only [Pt.U, Pt.locs, Pt.cells, Pt.slots] at X3 l3 y3 z3 st3 hQ3
  subst l3 y3 z3
  obtain ⟨rfl, N3q, e3⟩ := hQ3
  have N3 := Fr.app N0 N3q
  refine own_by (fun t k => st3.trans k) ?_
  show own_Go p.tables e below K (T3.setTop (mkF m 4 #[.val (.ref a1)] []))
  exact own_retV X3 hx hret (hb hby own_d26_4) (hK none X3 (fun _ => rfl) (⟨rfl, N3, e3⟩) (by decide) (by decide))
theorem own_pn25 : plainName "java/util/ImmutableCollections$AbstractImmutableList" = true := by first | (simp [plainName, overriddenIn]; done) | decide +kernel
theorem own_d25_0 : decode jdk_46_method_1_code 0 = .ok (.aload_n 0, 1) := by decide +kernel
theorem own_d25_1 : decode jdk_46_method_1_code 1 = .ok (.invokespecial 1, 3) := by decide +kernel
theorem own_d25_4 : decode jdk_46_method_1_code 4 = .ok (.return_, 1) := by decide +kernel
theorem own_efail (m : MethodId) (a1 : Addr) : entryFrame m #[(.ref a1)] 1 = mkF m 0 #[.val (.ref a1)] [] := by first | (simp [entryFrame, mkF, argsToLocals, Value.category]; done) | rfl
def own_Qail (Z : State) (a1 : Addr) (h0 : Heap) (n0 : Nat) (v : Option Value) (h : Heap) (L : List Loc) : Prop := v = none ∧ Fr n0 L ∧ h = h0
set_option maxRecDepth 65536 in
set_option maxHeartbeats 40000000 in
theorem own_rmail (l : Launch) (Z : State) (aw : Array Value) (hw : ∀ d ∈ tables_1, d.before aw Z = true) (ws : List Jvm.Cond) (a1 : Addr) (h0 : Heap) (n0 : Nat) (Z0 : n0 ≤ h0.size)  :
    MetFree l (⟨"java/util/ImmutableCollections$AbstractImmutableList", "<init>", "()V"⟩ : MethodName) (head1 (Jvm.Cond.code (⟨"java/util/ImmutableCollections$AbstractImmutableList", "<init>", "()V"⟩ : MethodName) jdk_46_method_1_code 1 none :: ws) ({ frames := 3, cells := 0, slots := 0, locals := 36 } : Room)) (fun a U => a = #[(.ref a1)] ∧ Z.Warmed39 U.vm ∧ U.heap = h0) (fun _ _ _ _ _ => True) (fun _ U o U' => ∃ v L, o = .returned v ∧ own_Qail Z a1 h0 n0 v U'.heap L ∧ FrameEnd U o U' L ({ frames := 3, cells := 0, slots := 0, locals := 36 } : Room).cells ({ frames := 3, cells := 0, slots := 0, locals := 36 } : Room).slots) := by
  refine own_met (Q := own_Qail Z a1 h0 n0) (plainFor_of_name own_pn25) ?_
  intro p e s m below meth c s₁ K hx hby hml hown hnm hret hZ X0 e0 hK
  have hown : s.vm.findClass "java/util/ImmutableCollections$AbstractImmutableList" = some m.cls := hown
  have hnm : meth.name = "<init>" := hnm
  have N0 := Fr.nil n0
  refine own_by (fun t k => castTop (own_efail m a1) k) ?_
  show own_Go p.tables e below K (s₁.setTop (mkF m 0 #[.val (.ref a1)] []))
  refine own_by (fun t k => XS.aloadN X0.here hx rfl (hb hby own_d25_0) rfl rfl k) ?_
  show own_Go p.tables e below K (s₁.setTop (mkF m 1 #[.val (.ref a1)] [(.ref a1)]))
  obtain ⟨_, _, ⟨T4, L4, k4, n4⟩, -, X4, ⟨Lc4, hQ4, l4, y4, z4⟩, st4⟩ := X0.specialBack hx (y := (⟨"java/util/ImmutableCollections$AbstractImmutableCollection", "<init>", "()V"⟩ : MethodName)) rfl hown (mvT hZ (hw _ (List.mem_of_getElem? (i := 172) rfl))) (mvT hZ (hw _ (List.mem_of_getElem? (i := 173) rfl))) (mvT hZ (hw _ (List.mem_of_getElem? (i := 177) rfl))) (by decide) (backOf (W := 0) (own_rmaic l Z aw hw [] a1 h0 n0 Z0) hZ (hw _ (List.mem_of_getElem? (i := 177) rfl)) (hw _ (List.mem_of_getElem? (i := 176) rfl)) (by decide) (by decide)) (g := (mkF m 1 #[.val (.ref a1)] [(.ref a1)])) rfl (by rw [hml]; rfl) (Steps.refl _) (a := a1) (argsL := []) (rest := []) (lenOf own_pd0 rfl) rfl (by show 2 * 0 + _ ≤ _; exact Nat.le_of_eq rfl) (hb hby own_d25_1) (fun _ _ => ⟨rfl, e0, (by decide : 0 + 0 ≤ _), (by decide : 0 + 0 ≤ _)⟩)
  dsimp only [Pt.U, Pt.locs, Pt.cells, Pt.slots] at X4 l4 y4 z4 st4 hQ4
  subst l4 y4 z4
  obtain ⟨rfl, N4q, e4⟩ := hQ4
  have N4 := Fr.app N0 N4q
  refine own_by (fun t k => st4.trans k) ?_
  show own_Go p.tables e below K (T4.setTop (mkF m 4 #[.val (.ref a1)] []))
  exact own_retV X4 hx hret (hb hby own_d25_4) (hK none X4 (fun _ => rfl) (⟨rfl, N4, e4⟩) (by decide) (by decide))
theorem own_pn5 : plainName "java/util/AbstractList" = true := by first | (simp [plainName, overriddenIn]; done) | decide +kernel
theorem own_d5_0 : decode jdk_39_method_1_code 0 = .ok (.aload_n 0, 1) := by decide +kernel
theorem own_d5_1 : decode jdk_39_method_1_code 1 = .ok (.invokespecial 1, 3) := by decide +kernel
theorem own_d5_4 : decode jdk_39_method_1_code 4 = .ok (.aload_n 0, 1) := by decide +kernel
theorem own_d5_5 : decode jdk_39_method_1_code 5 = .ok (.iconst 0, 1) := by decide +kernel
theorem own_d5_6 : decode jdk_39_method_1_code 6 = .ok (.putfield 7, 3) := by decide +kernel
theorem own_d5_9 : decode jdk_39_method_1_code 9 = .ok (.return_, 1) := by decide +kernel
theorem own_efali (m : MethodId) (a1 : Addr) : entryFrame m #[(.ref a1)] 1 = mkF m 0 #[.val (.ref a1)] [] := by first | (simp [entryFrame, mkF, argsToLocals, Value.category]; done) | rfl
def own_Qali (Z : State) (a1 : Addr)  (h0 : Heap) (n0 : Nat) (v : Option Value) (h : Heap) (L : List Loc) : Prop := v = none ∧ Fr n0 L ∧ Keep h0 h [a1] ∧ Exa Z h a1 "java/util/ArrayList" ∧ Fld Z h a1 "java/util/AbstractList" "modCount" "I" (.int 0) ∧ Fld Z h a1 "java/util/ArrayList" "elementData" "[Ljava/lang/Object;" .null ∧ Fld Z h a1 "java/util/ArrayList" "size" "I" (.int 0)
set_option maxRecDepth 65536 in
set_option maxHeartbeats 40000000 in
theorem own_rmali (l : Launch) (Z : State) (aw : Array Value) (hw : ∀ d ∈ tables_1, d.before aw Z = true) (ws : List Jvm.Cond) (a1 : Addr)  (h0 : Heap) (n0 : Nat) (Z0 : n0 ≤ h0.size) (E0 : Exa Z h0 a1 "java/util/ArrayList") (ga : n0 ≤ a1) (F0_modCount : Fld Z h0 a1 "java/util/AbstractList" "modCount" "I" (.int (0 : Int32))) (F0_elementData : Fld Z h0 a1 "java/util/ArrayList" "elementData" "[Ljava/lang/Object;" .null) (F0_size : Fld Z h0 a1 "java/util/ArrayList" "size" "I" (.int (0 : Int32)))  :
    MetFree l (⟨"java/util/AbstractList", "<init>", "()V"⟩ : MethodName) (head1 (Jvm.Cond.code (⟨"java/util/AbstractList", "<init>", "()V"⟩ : MethodName) jdk_39_method_1_code 1 none :: ws) ({ frames := 2, cells := 0, slots := 0, locals := 24 } : Room)) (fun a U => a = #[(.ref a1)] ∧ Z.Warmed39 U.vm ∧ U.heap = h0) (fun _ _ _ _ _ => True) (fun _ U o U' => ∃ v L, o = .returned v ∧ own_Qali Z a1 h0 n0 v U'.heap L ∧ FrameEnd U o U' L ({ frames := 2, cells := 0, slots := 0, locals := 24 } : Room).cells ({ frames := 2, cells := 0, slots := 0, locals := 24 } : Room).slots) := by
  refine own_met (Q := own_Qali Z a1 h0 n0) (plainFor_of_name own_pn5) ?_
  intro p e s m below meth c s₁ K hx hby hml hown hnm hret hZ X0 e0 hK
  have hown : s.vm.findClass "java/util/AbstractList" = some m.cls := hown
  have hnm : meth.name = "<init>" := hnm
  have N0 := Fr.nil n0
  refine own_by (fun t k => castTop (own_efali m a1) k) ?_
  show own_Go p.tables e below K (s₁.setTop (mkF m 0 #[.val (.ref a1)] []))
  refine own_by (fun t k => XS.aloadN X0.here hx rfl (hb hby own_d5_0) rfl rfl k) ?_
  show own_Go p.tables e below K (s₁.setTop (mkF m 1 #[.val (.ref a1)] [(.ref a1)]))
  obtain ⟨_, _, ⟨T5, L5, k5, n5⟩, -, X5, ⟨Lc5, hQ5, l5, y5, z5⟩, st5⟩ := X0.specialBack hx (y := (⟨"java/util/AbstractCollection", "<init>", "()V"⟩ : MethodName)) rfl hown (mvT hZ (hw _ (List.mem_of_getElem? (i := 34) rfl))) (mvT hZ (hw _ (List.mem_of_getElem? (i := 35) rfl))) (mvT hZ (hw _ (List.mem_of_getElem? (i := 39) rfl))) (by decide) (backOf (W := 0) (own_rmaci l Z aw hw [] a1 h0 n0 Z0) hZ (hw _ (List.mem_of_getElem? (i := 39) rfl)) (hw _ (List.mem_of_getElem? (i := 38) rfl)) (by decide) (by decide)) (g := (mkF m 1 #[.val (.ref a1)] [(.ref a1)])) rfl (by rw [hml]; rfl) (Steps.refl _) (a := a1) (argsL := []) (rest := []) (lenOf own_pd0 rfl) rfl (by show 2 * 0 + _ ≤ _; exact Nat.le_of_eq rfl) (hb hby own_d5_1) (fun _ _ => ⟨rfl, e0, (by decide : 0 + 0 ≤ _), (by decide : 0 + 0 ≤ _)⟩)
  dsimp only [Pt.U, Pt.locs, Pt.cells, Pt.slots] at X5 l5 y5 z5 st5 hQ5
  subst l5 y5 z5
  obtain ⟨rfl, N5q, e5⟩ := hQ5
  have N5 := Fr.app N0 N5q
  refine own_by (fun t k => st5.trans k) ?_
  show own_Go p.tables e below K (T5.setTop (mkF m 4 #[.val (.ref a1)] []))
  refine own_by (fun t k => XS.aloadN X5.here hx rfl (hb hby own_d5_4) rfl rfl k) ?_
  show own_Go p.tables e below K (T5.setTop (mkF m 5 #[.val (.ref a1)] [(.ref a1)]))
  refine own_by (fun t k => XS.iconst X5.here hx rfl (hb hby own_d5_5) k) ?_
  show own_Go p.tables e below K (T5.setTop (mkF m 6 #[.val (.ref a1)] [(.int (0 : Int32)), (.ref a1)]))
  obtain ⟨T6, h6, X6, e6, W6, st6⟩ := putF X5 hx hZ hown (host := "") (Or.inl (hw _ (List.mem_of_getElem? (i := 41) rfl))) Via.refl e5 F0_modCount E0 (Or.inl (hw _ (List.mem_of_getElem? (i := 42) rfl))) (hw _ (List.mem_of_getElem? (i := 23) rfl)) (ty := .int) (by decide) rfl rfl (g := (mkF m 6 #[.val (.ref a1)] [(.int (0 : Int32)), (.ref a1)])) rfl rfl (hb hby own_d5_6)
  refine own_by st6 ?_
  have F6_modCount_a1 := F0_modCount.same W6
  have F6_elementData_a1 := F0_elementData.other W6 (Or.inr (slot_ne (Or.inl (hw _ (List.mem_of_getElem? (i := 45) rfl))) (Or.inl (hw _ (List.mem_of_getElem? (i := 42) rfl))) (by decide) (t := (.array (.object "java/lang/Object"))) (t' := .int) (by decide) (by decide)))
  have F6_size_a1 := F0_size.other W6 (Or.inr (slot_ne (Or.inl (hw _ (List.mem_of_getElem? (i := 54) rfl))) (Or.inl (hw _ (List.mem_of_getElem? (i := 42) rfl))) (by decide) (t := .int) (t' := .int) (by decide) (by decide)))
  have Ex6_a1 := E0.wr W6
  have K6 := (Keep.refl h0 [a1]).wr W6 (Or.inl (by simp))
  have Z6 := Nat.le_trans Z0 (Keep.of_wr W6).1
  have N6 := Fr.snoc X6 N5 ga
  show own_Go p.tables e below K (T6.setTop (mkF m 9 #[.val (.ref a1)] []))
  exact own_retV X6 hx hret (hb hby own_d5_9) (hK none X6 (fun _ => rfl) (by rw [e6]; exact ⟨rfl, N6, K6, Ex6_a1, F6_modCount_a1, F6_elementData_a1, F6_size_a1⟩) (by decide) (by decide))
theorem own_pn4 : plainName "java/util/ArrayList" = true := by first | (simp [plainName, overriddenIn]; done) | decide +kernel
theorem own_d4_0 : decode jdk_38_method_2_code 0 = .ok (.aload_n 0, 1) := by decide +kernel
theorem own_d4_1 : decode jdk_38_method_2_code 1 = .ok (.invokespecial 1, 3) := by decide +kernel
theorem own_d4_4 : decode jdk_38_method_2_code 4 = .ok (.aload_n 0, 1) := by decide +kernel
theorem own_d4_5 : decode jdk_38_method_2_code 5 = .ok (.getstatic 39, 3) := by decide +kernel
theorem own_d4_8 : decode jdk_38_method_2_code 8 = .ok (.putfield 9, 3) := by decide +kernel
theorem own_d4_11 : decode jdk_38_method_2_code 11 = .ok (.return_, 1) := by decide +kernel
theorem own_efaln (m : MethodId) (a1 : Addr) : entryFrame m #[(.ref a1)] 1 = mkF m 0 #[.val (.ref a1)] [] := by first | (simp [entryFrame, mkF, argsToLocals, Value.category]; done) | rfl
def own_Qaln (Z : State) (a1 : Addr) (dd : Addr) (lz : Addr) (ez : Addr) (em : Addr) (mr : Addr) (h0 : Heap) (n0 : Nat) (v : Option Value) (h : Heap) (L : List Loc) : Prop := v = none ∧ Fr n0 L ∧ Keep h0 h [a1] ∧ own_AL Z h a1 dd 0 0
set_option maxRecDepth 65536 in
set_option maxHeartbeats 40000000 in
theorem own_rmaln (l : Launch) (Z : State) (aw : Array Value) (hw : ∀ d ∈ tables_1, d.before aw Z = true) (ws : List Jvm.Cond) (a1 : Addr) (dd : Addr) (lz : Addr) (ez : Addr) (em : Addr) (mr : Addr) (h0 : Heap) (n0 : Nat) (Z0 : n0 ≤ h0.size) (E0 : Exa Z h0 a1 "java/util/ArrayList") (ga : n0 ≤ a1) (F0_modCount : Fld Z h0 a1 "java/util/AbstractList" "modCount" "I" (.int (0 : Int32))) (F0_elementData : Fld Z h0 a1 "java/util/ArrayList" "elementData" "[Ljava/lang/Object;" .null) (F0_size : Fld Z h0 a1 "java/util/ArrayList" "size" "I" (.int (0 : Int32))) (O0 : Old Z n0 h0) (S0 : own_St Z dd lz ez em mr) :
    MetFree l (⟨"java/util/ArrayList", "<init>", "()V"⟩ : MethodName) (head1 (Jvm.Cond.code (⟨"java/util/ArrayList", "<init>", "()V"⟩ : MethodName) jdk_38_method_2_code 1 none :: ws) ({ frames := 3, cells := 0, slots := 0, locals := 36 } : Room)) (fun a U => a = #[(.ref a1)] ∧ Z.Warmed39 U.vm ∧ U.heap = h0) (fun _ _ _ _ _ => True) (fun _ U o U' => ∃ v L, o = .returned v ∧ own_Qaln Z a1 dd lz ez em mr h0 n0 v U'.heap L ∧ FrameEnd U o U' L ({ frames := 3, cells := 0, slots := 0, locals := 36 } : Room).cells ({ frames := 3, cells := 0, slots := 0, locals := 36 } : Room).slots) := by
  refine own_met (Q := own_Qaln Z a1 dd lz ez em mr h0 n0) (plainFor_of_name own_pn4) ?_
  intro p e s m below meth c s₁ K hx hby hml hown hnm hret hZ X0 e0 hK
  have hown : s.vm.findClass "java/util/ArrayList" = some m.cls := hown
  have hnm : meth.name = "<init>" := hnm
  have N0 := Fr.nil n0
  refine own_by (fun t k => castTop (own_efaln m a1) k) ?_
  show own_Go p.tables e below K (s₁.setTop (mkF m 0 #[.val (.ref a1)] []))
  refine own_by (fun t k => XS.aloadN X0.here hx rfl (hb hby own_d4_0) rfl rfl k) ?_
  show own_Go p.tables e below K (s₁.setTop (mkF m 1 #[.val (.ref a1)] [(.ref a1)]))
  obtain ⟨_, _, ⟨T7, L7, k7, n7⟩, -, X7, ⟨Lc7, hQ7, l7, y7, z7⟩, st7⟩ := X0.specialBack hx (y := (⟨"java/util/AbstractList", "<init>", "()V"⟩ : MethodName)) rfl hown (mvT hZ (hw _ (List.mem_of_getElem? (i := 28) rfl))) (mvT hZ (hw _ (List.mem_of_getElem? (i := 29) rfl))) (mvT hZ (hw _ (List.mem_of_getElem? (i := 33) rfl))) (by decide) (backOf (W := 0) (own_rmali l Z aw hw [] a1 h0 n0 Z0 E0 ga F0_modCount F0_elementData F0_size) hZ (hw _ (List.mem_of_getElem? (i := 33) rfl)) (hw _ (List.mem_of_getElem? (i := 32) rfl)) (by decide) (by decide)) (g := (mkF m 1 #[.val (.ref a1)] [(.ref a1)])) rfl (by rw [hml]; rfl) (Steps.refl _) (a := a1) (argsL := []) (rest := []) (lenOf own_pd0 rfl) rfl (by show 2 * 0 + _ ≤ _; exact Nat.le_of_eq rfl) (hb hby own_d4_1) (fun _ _ => ⟨rfl, e0, (by decide : 0 + 0 ≤ _), (by decide : 0 + 0 ≤ _)⟩)
  dsimp only [Pt.U, Pt.locs, Pt.cells, Pt.slots] at X7 l7 y7 z7 st7 hQ7
  subst l7 y7 z7
  obtain ⟨rfl, N7q, Kp7, Xp7, F1p7, F2p7, F3p7⟩ := hQ7
  have N7 := Fr.app N0 N7q
  refine own_by (fun t k => st7.trans k) ?_
  have Ex7_a1 := E0.keep Kp7
  have K7 := (Keep.refl h0 [a1]).trans Kp7 (allS (Or.inl (by simp)) (all0))
  have Z7 := Nat.le_trans Z0 Kp7.1
  have O7 := O0.keep Kp7 (allS ga (all0))
  show own_Go p.tables e below K (T7.setTop (mkF m 4 #[.val (.ref a1)] []))
  refine own_by (fun t k => XS.aloadN X7.here hx rfl (hb hby own_d4_4) rfl rfl k) ?_
  show own_Go p.tables e below K (T7.setTop (mkF m 5 #[.val (.ref a1)] [(.ref a1)]))
  obtain ⟨T8, X8, e8, st8⟩ := getS2 X7 hx hZ hown (host := "") (Or.inl (hw _ (List.mem_of_getElem? (i := 43) rfl))) Via.refl rfl (S0.1.ext O7.2) (g := (mkF m 5 #[.val (.ref a1)] [(.ref a1)])) rfl (hb hby own_d4_5)
  refine own_by st8 ?_
  show own_Go p.tables e below K (T8.setTop (mkF m 8 #[.val (.ref a1)] [(.ref dd), (.ref a1)]))
  obtain ⟨T9, h9, X9, e9, W9, st9⟩ := putF X8 hx hZ hown (host := "") (Or.inl (hw _ (List.mem_of_getElem? (i := 44) rfl))) Via.refl e8 F2p7 Xp7 (Or.inl (hw _ (List.mem_of_getElem? (i := 45) rfl))) (hw _ (List.mem_of_getElem? (i := 23) rfl)) (ty := (.array (.object "java/lang/Object"))) (by decide) rfl rfl (g := (mkF m 8 #[.val (.ref a1)] [(.ref dd), (.ref a1)])) rfl rfl (hb hby own_d4_8)
  refine own_by st9 ?_
  have F9_modCount_a1 := F1p7.other W9 (Or.inr (slot_ne (Or.inl (hw _ (List.mem_of_getElem? (i := 42) rfl))) (Or.inl (hw _ (List.mem_of_getElem? (i := 45) rfl))) (by decide) (t := .int) (t' := (.array (.object "java/lang/Object"))) (by decide) (by decide)))
  have F9_elementData_a1 := F2p7.same W9
  have F9_size_a1 := F3p7.other W9 (Or.inr (slot_ne (Or.inl (hw _ (List.mem_of_getElem? (i := 54) rfl))) (Or.inl (hw _ (List.mem_of_getElem? (i := 45) rfl))) (by decide) (t := .int) (t' := (.array (.object "java/lang/Object"))) (by decide) (by decide)))
  have Ex9_a1 := Xp7.wr W9
  have K9 := K7.wr W9 (Or.inl (by simp))
  have Z9 := Nat.le_trans Z7 (Keep.of_wr W9).1
  have O9 := O7.wr W9 ga
  have N9 := Fr.snoc X9 N7 ga
  show own_Go p.tables e below K (T9.setTop (mkF m 11 #[.val (.ref a1)] []))
  exact own_retV X9 hx hret (hb hby own_d4_11) (hK none X9 (fun _ => rfl) (by rw [e9]; exact ⟨rfl, N9, K9, ⟨Ex9_a1, F9_modCount_a1, F9_elementData_a1, F9_size_a1⟩⟩) (by decide) (by decide))
theorem own_d11_0 : decode jdk_29_method_65_code 0 = .ok (.iload_n 0, 1) := by decide +kernel
theorem own_d11_1 : decode jdk_29_method_65_code 1 = .ok (.iload_n 1, 1) := by decide +kernel
theorem own_d11_2 : decode jdk_29_method_65_code 2 = .ok (.if_icmp .lt 7, 3) := by decide +kernel
theorem own_d11_5 : decode jdk_29_method_65_code 5 = .ok (.iload_n 0, 1) := by decide +kernel
theorem own_d11_6 : decode jdk_29_method_65_code 6 = .ok (.goto 4, 3) := by decide +kernel
theorem own_d11_9 : decode jdk_29_method_65_code 9 = .ok (.iload_n 1, 1) := by decide +kernel
theorem own_d11_10 : decode jdk_29_method_65_code 10 = .ok (.ireturn, 1) := by decide +kernel
theorem own_efmxI (m : MethodId) (q1 : Int32) (q2 : Int32) : entryFrame m #[(.int q1), (.int q2)] 2 = mkF m 0 #[.val (.int q1), .val (.int q2)] [] := by first | (simp [entryFrame, mkF, argsToLocals, Value.category]; done) | rfl
def own_QmxI (Z : State) (q1 : Int32) (q2 : Int32) (h0 : Heap) (n0 : Nat) (v : Option Value) (h : Heap) (L : List Loc) : Prop := v = some (.int (own_mxI q1 q2)) ∧ Fr n0 L ∧ h = h0
set_option maxRecDepth 65536 in
set_option maxHeartbeats 40000000 in
theorem own_rmmxI (l : Launch) (Z : State) (aw : Array Value) (hw : ∀ d ∈ tables_1, d.before aw Z = true) (ws : List Jvm.Cond) (q1 : Int32) (q2 : Int32) (h0 : Heap) (n0 : Nat) (Z0 : n0 ≤ h0.size)  :
    MetFree l (⟨"java/lang/Math", "max", "(II)I"⟩ : MethodName) (head1 (Jvm.Cond.code (⟨"java/lang/Math", "max", "(II)I"⟩ : MethodName) jdk_29_method_65_code 2 (some .int) :: ws) ({ frames := 0, cells := 0, slots := 0, locals := 0 } : Room)) (fun a U => a = #[(.int q1), (.int q2)] ∧ Z.Warmed39 U.vm ∧ U.heap = h0) (fun _ _ _ _ _ => True) (fun _ U o U' => ∃ v L, o = .returned v ∧ own_QmxI Z q1 q2 h0 n0 v U'.heap L ∧ FrameEnd U o U' L ({ frames := 0, cells := 0, slots := 0, locals := 0 } : Room).cells ({ frames := 0, cells := 0, slots := 0, locals := 0 } : Room).slots) := by
  refine own_met (Q := own_QmxI Z q1 q2 h0 n0) (Jvm.Free.JP.mathPlain rfl (by decide +kernel)) ?_
  intro p e s m below meth c s₁ K hx hby hml hown hnm hret hZ X0 e0 hK
  have hown : s.vm.findClass "java/lang/Math" = some m.cls := hown
  have N0 := Fr.nil n0
  refine own_by (fun t k => castTop (own_efmxI m q1 q2) k) ?_
  show own_Go p.tables e below K (s₁.setTop (mkF m 0 #[.val (.int q1), .val (.int q2)] []))
  refine own_by (fun t k => XS.iloadN X0.here hx rfl (hb hby own_d11_0) rfl k) ?_
  show own_Go p.tables e below K (s₁.setTop (mkF m 1 #[.val (.int q1), .val (.int q2)] [(.int q1)]))
  refine own_by (fun t k => XS.iloadN X0.here hx rfl (hb hby own_d11_1) rfl k) ?_
  show own_Go p.tables e below K (s₁.setTop (mkF m 2 #[.val (.int q1), .val (.int q2)] [(.int q2), (.int q1)]))
  by_cases hc2 : q1 < q2
  · refine own_by (fun t k => XS.icmpYes X0.here hx rfl (pc0 := 2) (pc' := 9) rfl (hb hby own_d11_2) rfl (tlt hc2).1 (by decide) (by decide) k) ?_
    show own_Go p.tables e below K (s₁.setTop (mkF m 9 #[.val (.int q1), .val (.int q2)] []))
    refine own_by (fun t k => XS.iloadN X0.here hx rfl (hb hby own_d11_9) rfl k) ?_
    show own_Go p.tables e below K (s₁.setTop (mkF m 10 #[.val (.int q1), .val (.int q2)] [(.int q2)]))
    exact own_retI X0 hx hret (hb hby own_d11_10) (hK (some (.int q2)) X0 (fun h => by rw [hret] at h; cases h) (⟨by simp [own_mxI, *], N0, e0⟩) (by decide) (by decide))
  · refine own_by (fun t k => XS.icmpNo X0.here hx rfl (hb hby own_d11_2) rfl (flt hc2).1 k) ?_
    show own_Go p.tables e below K (s₁.setTop (mkF m 5 #[.val (.int q1), .val (.int q2)] []))
    refine own_by (fun t k => XS.iloadN X0.here hx rfl (hb hby own_d11_5) rfl k) ?_
    show own_Go p.tables e below K (s₁.setTop (mkF m 6 #[.val (.int q1), .val (.int q2)] [(.int q1)]))
    refine own_by (fun t k => XS.goto X0.here hx rfl (pc0 := 6) (pc' := 10) rfl (hb hby own_d11_6) (by decide) (by decide) k) ?_
    show own_Go p.tables e below K (s₁.setTop (mkF m 10 #[.val (.int q1), .val (.int q2)] [(.int q1)]))
    exact own_retI X0 hx hret (hb hby own_d11_10) (hK (some (.int q1)) X0 (fun h => by rw [hret] at h; cases h) (⟨by simp [own_mxI, *], N0, e0⟩) (by decide) (by decide))
theorem own_d20_0 : decode jdk_29_method_69_code 0 = .ok (.iload_n 0, 1) := by decide +kernel
theorem own_d20_1 : decode jdk_29_method_69_code 1 = .ok (.iload_n 1, 1) := by decide +kernel
theorem own_d20_2 : decode jdk_29_method_69_code 2 = .ok (.if_icmp .gt 7, 3) := by decide +kernel
theorem own_d20_5 : decode jdk_29_method_69_code 5 = .ok (.iload_n 0, 1) := by decide +kernel
theorem own_d20_6 : decode jdk_29_method_69_code 6 = .ok (.goto 4, 3) := by decide +kernel
theorem own_d20_9 : decode jdk_29_method_69_code 9 = .ok (.iload_n 1, 1) := by decide +kernel
theorem own_d20_10 : decode jdk_29_method_69_code 10 = .ok (.ireturn, 1) := by decide +kernel
theorem own_efmnI (m : MethodId) (q1 : Int32) (q2 : Int32) : entryFrame m #[(.int q1), (.int q2)] 2 = mkF m 0 #[.val (.int q1), .val (.int q2)] [] := by first | (simp [entryFrame, mkF, argsToLocals, Value.category]; done) | rfl
def own_QmnI (Z : State) (q1 : Int32) (q2 : Int32) (h0 : Heap) (n0 : Nat) (v : Option Value) (h : Heap) (L : List Loc) : Prop := v = some (.int (own_mnI q1 q2)) ∧ Fr n0 L ∧ h = h0
set_option maxRecDepth 65536 in
set_option maxHeartbeats 40000000 in
theorem own_rmmnI (l : Launch) (Z : State) (aw : Array Value) (hw : ∀ d ∈ tables_1, d.before aw Z = true) (ws : List Jvm.Cond) (q1 : Int32) (q2 : Int32) (h0 : Heap) (n0 : Nat) (Z0 : n0 ≤ h0.size)  :
    MetFree l (⟨"java/lang/Math", "min", "(II)I"⟩ : MethodName) (head1 (Jvm.Cond.code (⟨"java/lang/Math", "min", "(II)I"⟩ : MethodName) jdk_29_method_69_code 2 (some .int) :: ws) ({ frames := 0, cells := 0, slots := 0, locals := 0 } : Room)) (fun a U => a = #[(.int q1), (.int q2)] ∧ Z.Warmed39 U.vm ∧ U.heap = h0) (fun _ _ _ _ _ => True) (fun _ U o U' => ∃ v L, o = .returned v ∧ own_QmnI Z q1 q2 h0 n0 v U'.heap L ∧ FrameEnd U o U' L ({ frames := 0, cells := 0, slots := 0, locals := 0 } : Room).cells ({ frames := 0, cells := 0, slots := 0, locals := 0 } : Room).slots) := by
  refine own_met (Q := own_QmnI Z q1 q2 h0 n0) (Jvm.Free.JP.mathPlain rfl (by decide +kernel)) ?_
  intro p e s m below meth c s₁ K hx hby hml hown hnm hret hZ X0 e0 hK
  have hown : s.vm.findClass "java/lang/Math" = some m.cls := hown
  have N0 := Fr.nil n0
  refine own_by (fun t k => castTop (own_efmnI m q1 q2) k) ?_
  show own_Go p.tables e below K (s₁.setTop (mkF m 0 #[.val (.int q1), .val (.int q2)] []))
  refine own_by (fun t k => XS.iloadN X0.here hx rfl (hb hby own_d20_0) rfl k) ?_
  show own_Go p.tables e below K (s₁.setTop (mkF m 1 #[.val (.int q1), .val (.int q2)] [(.int q1)]))
  refine own_by (fun t k => XS.iloadN X0.here hx rfl (hb hby own_d20_1) rfl k) ?_
  show own_Go p.tables e below K (s₁.setTop (mkF m 2 #[.val (.int q1), .val (.int q2)] [(.int q2), (.int q1)]))
  by_cases hc2 : q2 < q1
  · refine own_by (fun t k => XS.icmpYes X0.here hx rfl (pc0 := 2) (pc' := 9) rfl (hb hby own_d20_2) rfl (tlt hc2).2.2.1 (by decide) (by decide) k) ?_
    show own_Go p.tables e below K (s₁.setTop (mkF m 9 #[.val (.int q1), .val (.int q2)] []))
    refine own_by (fun t k => XS.iloadN X0.here hx rfl (hb hby own_d20_9) rfl k) ?_
    show own_Go p.tables e below K (s₁.setTop (mkF m 10 #[.val (.int q1), .val (.int q2)] [(.int q2)]))
    exact own_retI X0 hx hret (hb hby own_d20_10) (hK (some (.int q2)) X0 (fun h => by rw [hret] at h; cases h) (⟨by simp [own_mnI, *], N0, e0⟩) (by decide) (by decide))
  · refine own_by (fun t k => XS.icmpNo X0.here hx rfl (hb hby own_d20_2) rfl (flt hc2).2.2.1 k) ?_
    show own_Go p.tables e below K (s₁.setTop (mkF m 5 #[.val (.int q1), .val (.int q2)] []))
    refine own_by (fun t k => XS.iloadN X0.here hx rfl (hb hby own_d20_5) rfl k) ?_
    show own_Go p.tables e below K (s₁.setTop (mkF m 6 #[.val (.int q1), .val (.int q2)] [(.int q1)]))
    refine own_by (fun t k => XS.goto X0.here hx rfl (pc0 := 6) (pc' := 10) rfl (hb hby own_d20_6) (by decide) (by decide) k) ?_
    show own_Go p.tables e below K (s₁.setTop (mkF m 10 #[.val (.int q1), .val (.int q2)] [(.int q1)]))
    exact own_retI X0 hx hret (hb hby own_d20_10) (hK (some (.int q1)) X0 (fun h => by rw [hret] at h; cases h) (⟨by simp [own_mnI, *], N0, e0⟩) (by decide) (by decide))
theorem own_pd1 : parseMethodDescriptor "(II)I" = some ⟨[.int, .int], some .int⟩ := by decide +kernel
theorem own_d10_0 : decode jdk_38_method_6_code 0 = .ok (.aload_n 0, 1) := by decide +kernel
theorem own_d10_1 : decode jdk_38_method_6_code 1 = .ok (.getfield 9, 3) := by decide +kernel
theorem own_d10_4 : decode jdk_38_method_6_code 4 = .ok (.arraylength, 1) := by decide +kernel
theorem own_d10_5 : decode jdk_38_method_6_code 5 = .ok (.istore_n 2, 1) := by decide +kernel
theorem own_d10_6 : decode jdk_38_method_6_code 6 = .ok (.iload_n 2, 1) := by decide +kernel
theorem own_d10_7 : decode jdk_38_method_6_code 7 = .ok (.ifCond .gt 13, 3) := by decide +kernel
theorem own_d10_10 : decode jdk_38_method_6_code 10 = .ok (.aload_n 0, 1) := by decide +kernel
theorem own_d10_11 : decode jdk_38_method_6_code 11 = .ok (.getfield 9, 3) := by decide +kernel
theorem own_d10_14 : decode jdk_38_method_6_code 14 = .ok (.getstatic 39, 3) := by decide +kernel
theorem own_d10_17 : decode jdk_38_method_6_code 17 = .ok (.if_acmp .eq 28, 3) := by decide +kernel
theorem own_d10_45 : decode jdk_38_method_6_code 45 = .ok (.aload_n 0, 1) := by decide +kernel
theorem own_d10_46 : decode jdk_38_method_6_code 46 = .ok (.bipush 10, 2) := by decide +kernel
theorem own_d10_48 : decode jdk_38_method_6_code 48 = .ok (.iload_n 1, 1) := by decide +kernel
theorem own_d10_49 : decode jdk_38_method_6_code 49 = .ok (.invokestatic 79, 3) := by decide +kernel
theorem own_d10_52 : decode jdk_38_method_6_code 52 = .ok (.anewarray 7, 3) := by decide +kernel
theorem own_d10_55 : decode jdk_38_method_6_code 55 = .ok (.dup_x1, 1) := by decide +kernel
theorem own_d10_56 : decode jdk_38_method_6_code 56 = .ok (.putfield 9, 3) := by decide +kernel
theorem own_d10_59 : decode jdk_38_method_6_code 59 = .ok (.areturn, 1) := by decide +kernel
theorem own_efgri (m : MethodId) (a1 : Addr) : entryFrame m #[(.ref a1), (.int (1 : Int32))] 4 = mkF m 0 #[.val (.ref a1), .val (.int (1 : Int32)), .unset, .unset] [] := by first | (simp [entryFrame, mkF, argsToLocals, Value.category]; done) | rfl
def own_Qgri (Z : State) (a1 : Addr) (mc : Int32) (dd : Addr) (lz : Addr) (ez : Addr) (em : Addr) (mr : Addr) (h0 : Heap) (n0 : Nat) (v : Option Value) (h : Heap) (L : List Loc) : Prop := ∃ (el : Addr) (k : ClassId), v = some (.ref el) ∧ Fr n0 L ∧ Keep h0 h [a1] ∧ n0 ≤ el ∧ h0.size ≤ el ∧ own_AL Z h a1 el 0 mc ∧ own_Ar Z h el k 10 [.null, .null, .null, .null, .null, .null, .null, .null, .null, .null]
set_option maxRecDepth 65536 in
set_option maxHeartbeats 40000000 in
theorem own_rmgri (l : Launch) (Z : State) (aw : Array Value) (hw : ∀ d ∈ tables_1, d.before aw Z = true) (ws : List Jvm.Cond) (a1 : Addr) (mc : Int32) (dd : Addr) (lz : Addr) (ez : Addr) (em : Addr) (mr : Addr) (h0 : Heap) (n0 : Nat) (Z0 : n0 ≤ h0.size) (B0 : own_AL Z h0 a1 dd 0 mc) (ga : n0 ≤ a1) (O0 : Old Z n0 h0) (S0 : own_St Z dd lz ez em mr) :
    MetFree l (⟨"java/util/ArrayList", "grow", "(I)[Ljava/lang/Object;"⟩ : MethodName) (head1 (Jvm.Cond.code (⟨"java/util/ArrayList", "grow", "(I)[Ljava/lang/Object;"⟩ : MethodName) jdk_38_method_6_code 4 (some (.array (.object "java/lang/Object"))) :: ws) ({ frames := 1, cells := 1, slots := 10, locals := 20 } : Room)) (fun a U => a = #[(.ref a1), (.int (1 : Int32))] ∧ Z.Warmed39 U.vm ∧ U.heap = h0) (fun _ _ _ _ _ => True) (fun _ U o U' => ∃ v L, o = .returned v ∧ own_Qgri Z a1 mc dd lz ez em mr h0 n0 v U'.heap L ∧ FrameEnd U o U' L ({ frames := 1, cells := 1, slots := 10, locals := 20 } : Room).cells ({ frames := 1, cells := 1, slots := 10, locals := 20 } : Room).slots) := by
  refine own_met (Q := own_Qgri Z a1 mc dd lz ez em mr h0 n0) (plainFor_of_name own_pn4) ?_
  intro p e s m below meth c s₁ K hx hby hml hown hnm hret hZ X0 e0 hK
  have hown : s.vm.findClass "java/util/ArrayList" = some m.cls := hown
  have N0 := Fr.nil n0
  refine own_by (fun t k => castTop (own_efgri m a1) k) ?_
  show own_Go p.tables e below K (s₁.setTop (mkF m 0 #[.val (.ref a1), .val (.int (1 : Int32)), .unset, .unset] []))
  refine own_by (fun t k => XS.aloadN X0.here hx rfl (hb hby own_d10_0) rfl rfl k) ?_
  show own_Go p.tables e below K (s₁.setTop (mkF m 1 #[.val (.ref a1), .val (.int (1 : Int32)), .unset, .unset] [(.ref a1)]))
  obtain ⟨T10, X10, e10, st10⟩ := getF X0 hx hZ hown (host := "") (Or.inl (hw _ (List.mem_of_getElem? (i := 44) rfl))) Via.refl e0 B0.2.2.1 (g := (mkF m 1 #[.val (.ref a1), .val (.int (1 : Int32)), .unset, .unset] [(.ref a1)])) rfl rfl (hb hby own_d10_1)
  refine own_by st10 ?_
  show own_Go p.tables e below K (T10.setTop (mkF m 4 #[.val (.ref a1), .val (.int (1 : Int32)), .unset, .unset] [(.ref dd)]))
  obtain ⟨cl11, Ar11, S11⟩ := id (S0.2.1.ext O0.2)
  refine own_by (fun t k => X10.arraylength hx (by rw [e10]; exact Ar11.1) (State.isArrayOf_alike hZ.alike Ar11.2.1) (g := (mkF m 4 #[.val (.ref a1), .val (.int (1 : Int32)), .unset, .unset] [(.ref dd)])) rfl rfl (hb hby own_d10_4) t k) ?_
  rw [S11]
  show own_Go p.tables e below K (T10.setTop (mkF m 5 #[.val (.ref a1), .val (.int (1 : Int32)), .unset, .unset] [(.int (0 : Int32))]))
  refine own_by (fun t k => XS.istoreN X10.here hx rfl (hb hby own_d10_5) rfl (l' := #[.val (.ref a1), .val (.int (1 : Int32)), .val (.int (0 : Int32)), .unset]) rfl k) ?_
  show own_Go p.tables e below K (T10.setTop (mkF m 6 #[.val (.ref a1), .val (.int (1 : Int32)), .val (.int (0 : Int32)), .unset] []))
  refine own_by (fun t k => XS.iloadN X10.here hx rfl (hb hby own_d10_6) rfl k) ?_
  show own_Go p.tables e below K (T10.setTop (mkF m 7 #[.val (.ref a1), .val (.int (1 : Int32)), .val (.int (0 : Int32)), .unset] [(.int (0 : Int32))]))
  have hc7 : ¬ ((0 : Int32) < (0 : Int32)) := by decide
  refine own_by (fun t k => XS.ifNo X10.here hx rfl (hb hby own_d10_7) rfl ((if0 _ _).trans (flt hc7).2.2.1) k) ?_
  show own_Go p.tables e below K (T10.setTop (mkF m 10 #[.val (.ref a1), .val (.int (1 : Int32)), .val (.int (0 : Int32)), .unset] []))
  refine own_by (fun t k => XS.aloadN X10.here hx rfl (hb hby own_d10_10) rfl rfl k) ?_
  show own_Go p.tables e below K (T10.setTop (mkF m 11 #[.val (.ref a1), .val (.int (1 : Int32)), .val (.int (0 : Int32)), .unset] [(.ref a1)]))
  obtain ⟨T12, X12, e12, st12⟩ := getF X10 hx hZ hown (host := "") (Or.inl (hw _ (List.mem_of_getElem? (i := 44) rfl))) Via.refl e10 B0.2.2.1 (g := (mkF m 11 #[.val (.ref a1), .val (.int (1 : Int32)), .val (.int (0 : Int32)), .unset] [(.ref a1)])) rfl rfl (hb hby own_d10_11)
  refine own_by st12 ?_
  show own_Go p.tables e below K (T12.setTop (mkF m 14 #[.val (.ref a1), .val (.int (1 : Int32)), .val (.int (0 : Int32)), .unset] [(.ref dd)]))
  obtain ⟨T13, X13, e13, st13⟩ := getS2 X12 hx hZ hown (host := "") (Or.inl (hw _ (List.mem_of_getElem? (i := 43) rfl))) Via.refl e12 (S0.1.ext O0.2) (g := (mkF m 14 #[.val (.ref a1), .val (.int (1 : Int32)), .val (.int (0 : Int32)), .unset] [(.ref dd)])) rfl (hb hby own_d10_14)
  refine own_by st13 ?_
  show own_Go p.tables e below K (T13.setTop (mkF m 17 #[.val (.ref a1), .val (.int (1 : Int32)), .val (.int (0 : Int32)), .unset] [(.ref dd), (.ref dd)]))
  refine own_by (fun t k => acmp X13 hx rfl rfl rfl (pc0 := 17) (pc' := 45) (same := true) rfl (hb hby own_d10_17) rfl (by simp) (by decide) (by decide) k) ?_
  show own_Go p.tables e below K (T13.setTop (mkF m 45 #[.val (.ref a1), .val (.int (1 : Int32)), .val (.int (0 : Int32)), .unset] []))
  refine own_by (fun t k => XS.aloadN X13.here hx rfl (hb hby own_d10_45) rfl rfl k) ?_
  show own_Go p.tables e below K (T13.setTop (mkF m 46 #[.val (.ref a1), .val (.int (1 : Int32)), .val (.int (0 : Int32)), .unset] [(.ref a1)]))
  refine own_by (fun t k => XS.bipush X13.here hx rfl (hb hby own_d10_46) k) ?_
  show own_Go p.tables e below K (T13.setTop (mkF m 48 #[.val (.ref a1), .val (.int (1 : Int32)), .val (.int (0 : Int32)), .unset] [(.int (10 : Int32)), (.ref a1)]))
  refine own_by (fun t k => XS.iloadN X13.here hx rfl (hb hby own_d10_48) rfl k) ?_
  show own_Go p.tables e below K (T13.setTop (mkF m 49 #[.val (.ref a1), .val (.int (1 : Int32)), .val (.int (0 : Int32)), .unset] [(.int (1 : Int32)), (.int (10 : Int32)), (.ref a1)]))
  obtain ⟨_, _, ⟨T14, L14, k14, n14⟩, -, X14, ⟨Lc14, hQ14, l14, y14, z14⟩, st14⟩ := Jvm.LawKit.callS X13 hx (y := (⟨"java/lang/Math", "max", "(II)I"⟩ : MethodName)) hown (mvT hZ (hw _ (List.mem_of_getElem? (i := 70) rfl))) (mvT hZ (hw _ (List.mem_of_getElem? (i := 71) rfl))) (mvT hZ (hw _ (List.mem_of_getElem? (i := 72) rfl))) (mvT hZ (hw _ (List.mem_of_getElem? (i := 73) rfl))) (by decide) (backOf (W := 1) (own_rmmxI l Z aw hw [] 10 1 h0 n0 Z0) hZ (hw _ (List.mem_of_getElem? (i := 73) rfl)) (hw _ (List.mem_of_getElem? (i := 72) rfl)) (by decide) (by decide)) (g := (mkF m 49 #[.val (.ref a1), .val (.int (1 : Int32)), .val (.int (0 : Int32)), .unset] [(.int (1 : Int32)), (.int (10 : Int32)), (.ref a1)])) rfl (by rw [hml]; rfl) (argsL := [(.int (10 : Int32)), (.int (1 : Int32))]) (rest := [(.ref a1)]) (lenOf own_pd1 rfl) rfl (by show 2 * 0 + _ ≤ _; exact Nat.le_of_eq rfl) (hb hby own_d10_49) (fun _ _ => ⟨rfl, e13, (by decide : 0 + 0 ≤ _), (by decide : 0 + 0 ≤ _)⟩)
  dsimp only [Pt.U, Pt.locs, Pt.cells, Pt.slots] at X14 l14 y14 z14 st14 hQ14
  subst l14 y14 z14
  obtain ⟨rfl, N14q, e14⟩ := hQ14
  have N14 := Fr.app N0 N14q
  refine own_by st14 ?_
  show own_Go p.tables e below K (T14.setTop (mkF m 52 #[.val (.ref a1), .val (.int (1 : Int32)), .val (.int (0 : Int32)), .unset] [(.int (10 : Int32)), (.ref a1)]))
  obtain ⟨T15, h15, k15, X15, e15, E15, A15, Ea15, Ov15, st15⟩ := newRE X14 hx hZ hown (hw _ (List.mem_of_getElem? (i := 74) rfl)) (hw _ (List.mem_of_getElem? (i := 75) rfl)) e14 (g := (mkF m 52 #[.val (.ref a1), .val (.int (1 : Int32)), .val (.int (0 : Int32)), .unset] [(.int (10 : Int32)), (.ref a1)])) rfl (hb hby own_d10_52) rfl (by decide) (cap := 10) (by decide) (by decide) (by decide) (by decide) (ad := "[Ljava/lang/Object;") (by decide +kernel)
  obtain ⟨b15, g15⟩ : ∃ z, z = h0.size := ⟨_, rfl⟩
  rw [← g15] at A15 Ea15 st15
  refine own_by st15 ?_
  have gn_b15 : n0 ≤ b15 := Nat.le_trans Z0 (Nat.le_of_eq g15.symm)
  have sz_b15 : h0.size ≤ b15 := Nat.le_trans (Keep.refl h0 [a1]).1 (Nat.le_of_eq g15.symm)
  have ne_a1_b15 : a1 ≠ b15 := Nat.ne_of_lt (Nat.lt_of_lt_of_le B0.1.lt (Nat.le_of_eq g15.symm))
  have F15_modCount_a1 := B0.2.1.ext E15
  have F15_elementData_a1 := B0.2.2.1.ext E15
  have F15_size_a1 := B0.2.2.2.ext E15
  have Ex15_a1 := B0.1.ext E15
  have K15 := (Keep.refl h0 [a1]).ext E15
  have Z15 := Nat.le_trans Z0 E15.1
  have O15 := O0.ext E15
  have xn15 : own_Ar Z h15 b15 k15 (10 : Int32) [.null, .null, .null, .null, .null, .null, .null, .null, .null, .null] := ⟨(Arv.new A15 (by decide)).pad (pad_rep [] .null 10), Ea15, Ov15⟩
  show own_Go p.tables e below K (T15.setTop (mkF m 55 #[.val (.ref a1), .val (.int (1 : Int32)), .val (.int (0 : Int32)), .unset] [(.ref b15), (.ref a1)]))
  refine own_by (fun t k => XS.dupX1 X15.here hx rfl (hb hby own_d10_55) rfl rfl rfl k) ?_
  show own_Go p.tables e below K (T15.setTop (mkF m 56 #[.val (.ref a1), .val (.int (1 : Int32)), .val (.int (0 : Int32)), .unset] [(.ref b15), (.ref a1), (.ref b15)]))
  obtain ⟨T16, h16, X16, e16, W16, st16⟩ := putF X15 hx hZ hown (host := "") (Or.inl (hw _ (List.mem_of_getElem? (i := 44) rfl))) Via.refl e15 F15_elementData_a1 Ex15_a1 (Or.inl (hw _ (List.mem_of_getElem? (i := 45) rfl))) (hw _ (List.mem_of_getElem? (i := 23) rfl)) (ty := (.array (.object "java/lang/Object"))) (by decide) rfl rfl (g := (mkF m 56 #[.val (.ref a1), .val (.int (1 : Int32)), .val (.int (0 : Int32)), .unset] [(.ref b15), (.ref a1), (.ref b15)])) rfl rfl (hb hby own_d10_56)
  refine own_by st16 ?_
  have F16_modCount_a1 := F15_modCount_a1.other W16 (Or.inr (slot_ne (Or.inl (hw _ (List.mem_of_getElem? (i := 42) rfl))) (Or.inl (hw _ (List.mem_of_getElem? (i := 45) rfl))) (by decide) (t := .int) (t' := (.array (.object "java/lang/Object"))) (by decide) (by decide)))
  have F16_elementData_a1 := F15_elementData_a1.same W16
  have F16_size_a1 := F15_size_a1.other W16 (Or.inr (slot_ne (Or.inl (hw _ (List.mem_of_getElem? (i := 54) rfl))) (Or.inl (hw _ (List.mem_of_getElem? (i := 45) rfl))) (by decide) (t := .int) (t' := (.array (.object "java/lang/Object"))) (by decide) (by decide)))
  have xa16_b15 := xn15.other W16 (Ne.symm ne_a1_b15)
  have Ex16_a1 := Ex15_a1.wr W16
  have K16 := K15.wr W16 (Or.inl (by simp))
  have Z16 := Nat.le_trans Z15 (Keep.of_wr W16).1
  have O16 := O15.wr W16 ga
  have N16 := Fr.snoc X16 N14 ga
  show own_Go p.tables e below K (T16.setTop (mkF m 59 #[.val (.ref a1), .val (.int (1 : Int32)), .val (.int (0 : Int32)), .unset] [(.ref b15)]))
  exact own_retA X16 hx hret rfl rfl rfl (hb hby own_d10_59) (hK (some (.ref b15)) X16 (fun h => by rw [hret] at h; cases h) (by rw [e16]; exact ⟨_, _, rfl, N16, K16, gn_b15, sz_b15, ⟨Ex16_a1, F16_modCount_a1, F16_elementData_a1, F16_size_a1⟩, xa16_b15⟩) (by decide) (by decide))
theorem own_pd2 : parseMethodDescriptor "(I)[Ljava/lang/Object;" = some ⟨[.int], some (.array (.object "java/lang/Object"))⟩ := by decide +kernel
theorem own_d9_0 : decode jdk_38_method_7_code 0 = .ok (.aload_n 0, 1) := by decide +kernel
theorem own_d9_1 : decode jdk_38_method_7_code 1 = .ok (.aload_n 0, 1) := by decide +kernel
theorem own_d9_2 : decode jdk_38_method_7_code 2 = .ok (.getfield 48, 3) := by decide +kernel
theorem own_d9_5 : decode jdk_38_method_7_code 5 = .ok (.iconst 1, 1) := by decide +kernel
theorem own_d9_6 : decode jdk_38_method_7_code 6 = .ok (.iadd, 1) := by decide +kernel
theorem own_d9_7 : decode jdk_38_method_7_code 7 = .ok (.invokevirtual 69, 3) := by decide +kernel
theorem own_d9_10 : decode jdk_38_method_7_code 10 = .ok (.areturn, 1) := by decide +kernel
theorem own_efgr0 (m : MethodId) (a1 : Addr) : entryFrame m #[(.ref a1)] 1 = mkF m 0 #[.val (.ref a1)] [] := by first | (simp [entryFrame, mkF, argsToLocals, Value.category]; done) | rfl
def own_Qgr0 (Z : State) (a1 : Addr) (mc : Int32) (dd : Addr) (lz : Addr) (ez : Addr) (em : Addr) (mr : Addr) (h0 : Heap) (n0 : Nat) (v : Option Value) (h : Heap) (L : List Loc) : Prop := ∃ (el : Addr) (k : ClassId), v = some (.ref el) ∧ Fr n0 L ∧ Keep h0 h [a1] ∧ n0 ≤ el ∧ h0.size ≤ el ∧ own_AL Z h a1 el 0 mc ∧ own_Ar Z h el k 10 [.null, .null, .null, .null, .null, .null, .null, .null, .null, .null]
set_option maxRecDepth 65536 in
set_option maxHeartbeats 40000000 in
theorem own_rmgr0 (l : Launch) (Z : State) (aw : Array Value) (hw : ∀ d ∈ tables_1, d.before aw Z = true) (ws : List Jvm.Cond) (a1 : Addr) (mc : Int32) (dd : Addr) (lz : Addr) (ez : Addr) (em : Addr) (mr : Addr) (h0 : Heap) (n0 : Nat) (Z0 : n0 ≤ h0.size) (B0 : own_AL Z h0 a1 dd 0 mc) (ga : n0 ≤ a1) (O0 : Old Z n0 h0) (S0 : own_St Z dd lz ez em mr) :
    MetFree l (⟨"java/util/ArrayList", "grow", "()[Ljava/lang/Object;"⟩ : MethodName) (head1 (Jvm.Cond.code (⟨"java/util/ArrayList", "grow", "()[Ljava/lang/Object;"⟩ : MethodName) jdk_38_method_7_code 1 (some (.array (.object "java/lang/Object"))) :: ws) ({ frames := 2, cells := 1, slots := 10, locals := 40 } : Room)) (fun a U => a = #[(.ref a1)] ∧ Z.Warmed39 U.vm ∧ U.heap = h0) (fun _ _ _ _ _ => True) (fun _ U o U' => ∃ v L, o = .returned v ∧ own_Qgr0 Z a1 mc dd lz ez em mr h0 n0 v U'.heap L ∧ FrameEnd U o U' L ({ frames := 2, cells := 1, slots := 10, locals := 40 } : Room).cells ({ frames := 2, cells := 1, slots := 10, locals := 40 } : Room).slots) := by
  refine own_met (Q := own_Qgr0 Z a1 mc dd lz ez em mr h0 n0) (plainFor_of_name own_pn4) ?_
  intro p e s m below meth c s₁ K hx hby hml hown hnm hret hZ X0 e0 hK
  have hown : s.vm.findClass "java/util/ArrayList" = some m.cls := hown
  have N0 := Fr.nil n0
  refine own_by (fun t k => castTop (own_efgr0 m a1) k) ?_
  show own_Go p.tables e below K (s₁.setTop (mkF m 0 #[.val (.ref a1)] []))
  refine own_by (fun t k => XS.aloadN X0.here hx rfl (hb hby own_d9_0) rfl rfl k) ?_
  show own_Go p.tables e below K (s₁.setTop (mkF m 1 #[.val (.ref a1)] [(.ref a1)]))
  refine own_by (fun t k => XS.aloadN X0.here hx rfl (hb hby own_d9_1) rfl rfl k) ?_
  show own_Go p.tables e below K (s₁.setTop (mkF m 2 #[.val (.ref a1)] [(.ref a1), (.ref a1)]))
  obtain ⟨T17, X17, e17, st17⟩ := getF X0 hx hZ hown (host := "") (Or.inl (hw _ (List.mem_of_getElem? (i := 53) rfl))) Via.refl e0 B0.2.2.2 (g := (mkF m 2 #[.val (.ref a1)] [(.ref a1), (.ref a1)])) rfl rfl (hb hby own_d9_2)
  refine own_by st17 ?_
  show own_Go p.tables e below K (T17.setTop (mkF m 5 #[.val (.ref a1)] [(.int (0 : Int32)), (.ref a1)]))
  refine own_by (fun t k => XS.iconst X17.here hx rfl (hb hby own_d9_5) k) ?_
  show own_Go p.tables e below K (T17.setTop (mkF m 6 #[.val (.ref a1)] [(.int (1 : Int32)), (.int (0 : Int32)), (.ref a1)]))
  refine own_by (fun t k => XS.iadd X17.here hx rfl (hb hby own_d9_6) rfl k) ?_
  show own_Go p.tables e below K (T17.setTop (mkF m 7 #[.val (.ref a1)] [(.int (1 : Int32)), (.ref a1)]))
  obtain ⟨cp18, kp18, pa18, -, -, pb18, -⟩ := id B0.1
  obtain ⟨_, _, ⟨T18, L18, k18, n18⟩, -, X18, ⟨Lc18, hQ18, l18, y18, z18⟩, st18⟩ := X17.privateBack hx (y := (⟨"java/util/ArrayList", "grow", "(I)[Ljava/lang/Object;"⟩ : MethodName)) hown (mvT hZ (hw _ (List.mem_of_getElem? (i := 65) rfl))) (mvT hZ (hw _ (List.mem_of_getElem? (i := 66) rfl))) (mvT hZ (hw _ (List.mem_of_getElem? (i := 68) rfl))) (Cond.privateMethod_at (args := #[]) (mvT hZ (hw _ (List.mem_of_getElem? (i := 67) rfl)))) (mvT hZ (hw _ (List.mem_of_getElem? (i := 69) rfl))) (by decide) (backOf (W := 0) (own_rmgri l Z aw hw [] a1 mc dd lz ez em mr h0 n0 Z0 B0 ga O0 S0) hZ (hw _ (List.mem_of_getElem? (i := 69) rfl)) (hw _ (List.mem_of_getElem? (i := 24) rfl)) (by decide) (by decide)) (g := (mkF m 7 #[.val (.ref a1)] [(.int (1 : Int32)), (.ref a1)])) rfl (by rw [hml]; rfl) (Steps.refl _) (a := a1) (by rw [e17]; exact pa18) (fun z q => by rw [q] at pb18; cases pb18) (argsL := [(.int (1 : Int32))]) (rest := []) (lenOf own_pd2 rfl) rfl (by show 2 * 0 + _ ≤ _; exact Nat.le_of_eq rfl) (hb hby own_d9_7) (fun _ _ => ⟨rfl, e17, (by decide : 0 + 1 ≤ _), (by decide : 0 + 10 ≤ _)⟩)
  dsimp only [Pt.U, Pt.locs, Pt.cells, Pt.slots] at X18 l18 y18 z18 st18 hQ18
  subst l18 y18 z18
  obtain ⟨el18, k18c, rfl, N18q, r18⟩ := hQ18
  have N18 := Fr.app N0 N18q
  refine own_by (fun t k => st18.trans k) ?_
  show own_Go p.tables e below K (T18.setTop (mkF m 10 #[.val (.ref a1)] [(.ref el18)]))
  exact own_retA X18 hx hret rfl rfl rfl (hb hby own_d9_10) (hK (some (.ref el18)) X18 (fun h => by rw [hret] at h; cases h) (⟨_, _, rfl, N18, r18⟩) (by decide) (by decide))
theorem own_pd3 : parseMethodDescriptor "()[Ljava/lang/Object;" = some ⟨[], some (.array (.object "java/lang/Object"))⟩ := by decide +kernel
theorem own_d8_0 : decode jdk_38_method_24_code 0 = .ok (.iload_n 3, 1) := by decide +kernel
theorem own_d8_1 : decode jdk_38_method_24_code 1 = .ok (.aload_n 2, 1) := by decide +kernel
theorem own_d8_2 : decode jdk_38_method_24_code 2 = .ok (.arraylength, 1) := by decide +kernel
theorem own_d8_3 : decode jdk_38_method_24_code 3 = .ok (.if_icmp .ne 8, 3) := by decide +kernel
theorem own_d8_6 : decode jdk_38_method_24_code 6 = .ok (.aload_n 0, 1) := by decide +kernel
theorem own_d8_7 : decode jdk_38_method_24_code 7 = .ok (.invokevirtual 129, 3) := by decide +kernel
theorem own_d8_10 : decode jdk_38_method_24_code 10 = .ok (.astore_n 2, 1) := by decide +kernel
theorem own_d8_11 : decode jdk_38_method_24_code 11 = .ok (.aload_n 2, 1) := by decide +kernel
theorem own_d8_12 : decode jdk_38_method_24_code 12 = .ok (.iload_n 3, 1) := by decide +kernel
theorem own_d8_13 : decode jdk_38_method_24_code 13 = .ok (.aload_n 1, 1) := by decide +kernel
theorem own_d8_14 : decode jdk_38_method_24_code 14 = .ok (.aastore, 1) := by decide +kernel
theorem own_d8_15 : decode jdk_38_method_24_code 15 = .ok (.aload_n 0, 1) := by decide +kernel
theorem own_d8_16 : decode jdk_38_method_24_code 16 = .ok (.iload_n 3, 1) := by decide +kernel
theorem own_d8_17 : decode jdk_38_method_24_code 17 = .ok (.iconst 1, 1) := by decide +kernel
theorem own_d8_18 : decode jdk_38_method_24_code 18 = .ok (.iadd, 1) := by decide +kernel
theorem own_d8_19 : decode jdk_38_method_24_code 19 = .ok (.putfield 48, 3) := by decide +kernel
theorem own_d8_22 : decode jdk_38_method_24_code 22 = .ok (.return_, 1) := by decide +kernel
theorem own_efadi0 (m : MethodId) (a1 : Addr) (w : Addr) (dd : Addr) : entryFrame m #[(.ref a1), (.ref w), (.ref dd), (.int (0 : Int32))] 4 = mkF m 0 #[.val (.ref a1), .val (.ref w), .val (.ref dd), .val (.int (0 : Int32))] [] := by first | (simp [entryFrame, mkF, argsToLocals, Value.category]; done) | rfl
def own_Qadi0 (Z : State) (a1 : Addr) (w : Addr) (mc : Int32) (dd : Addr) (lz : Addr) (ez : Addr) (em : Addr) (mr : Addr) (h0 : Heap) (n0 : Nat) (v : Option Value) (h : Heap) (L : List Loc) : Prop := ∃ (el : Addr) (k : ClassId), v = none ∧ Fr n0 L ∧ Keep h0 h [a1] ∧ n0 ≤ el ∧ own_AL Z h a1 el (1 : Int32) mc ∧ own_Ar Z h el k 10 [(.ref w), .null, .null, .null, .null, .null, .null, .null, .null, .null]
set_option maxRecDepth 65536 in
set_option maxHeartbeats 40000000 in
theorem own_rmadi0 (l : Launch) (Z : State) (aw : Array Value) (hw : ∀ d ∈ tables_1, d.before aw Z = true) (ws : List Jvm.Cond) (a1 : Addr) (w : Addr) (mc : Int32) (dd : Addr) (lz : Addr) (ez : Addr) (em : Addr) (mr : Addr) (h0 : Heap) (n0 : Nat) (Z0 : n0 ≤ h0.size) (B0 : own_AL Z h0 a1 dd (0 : Int32) mc) (Ew : Exa Z h0 w "com/example/skyroster/skyroster/UsedWindow") (ga : n0 ≤ a1)  (O0 : Old Z n0 h0) (S0 : own_St Z dd lz ez em mr) :
    MetFree l (⟨"java/util/ArrayList", "add", "(Ljava/lang/Object;[Ljava/lang/Object;I)V"⟩ : MethodName) (head1 (Jvm.Cond.code (⟨"java/util/ArrayList", "add", "(Ljava/lang/Object;[Ljava/lang/Object;I)V"⟩ : MethodName) jdk_38_method_24_code 4 none :: ws) ({ frames := 3, cells := 1, slots := 10, locals := 60 } : Room)) (fun a U => a = #[(.ref a1), (.ref w), (.ref dd), (.int (0 : Int32))] ∧ Z.Warmed39 U.vm ∧ U.heap = h0) (fun _ _ _ _ _ => True) (fun _ U o U' => ∃ v L, o = .returned v ∧ own_Qadi0 Z a1 w mc dd lz ez em mr h0 n0 v U'.heap L ∧ FrameEnd U o U' L ({ frames := 3, cells := 1, slots := 10, locals := 60 } : Room).cells ({ frames := 3, cells := 1, slots := 10, locals := 60 } : Room).slots) := by
  refine own_met (Q := own_Qadi0 Z a1 w mc dd lz ez em mr h0 n0) (plainFor_of_name own_pn4) ?_
  intro p e s m below meth c s₁ K hx hby hml hown hnm hret hZ X0 e0 hK
  have hown : s.vm.findClass "java/util/ArrayList" = some m.cls := hown
  have N0 := Fr.nil n0
  refine own_by (fun t k => castTop (own_efadi0 m a1 w dd) k) ?_
  show own_Go p.tables e below K (s₁.setTop (mkF m 0 #[.val (.ref a1), .val (.ref w), .val (.ref dd), .val (.int (0 : Int32))] []))
  refine own_by (fun t k => XS.iloadN X0.here hx rfl (hb hby own_d8_0) rfl k) ?_
  show own_Go p.tables e below K (s₁.setTop (mkF m 1 #[.val (.ref a1), .val (.ref w), .val (.ref dd), .val (.int (0 : Int32))] [(.int (0 : Int32))]))
  refine own_by (fun t k => XS.aloadN X0.here hx rfl (hb hby own_d8_1) rfl rfl k) ?_
  show own_Go p.tables e below K (s₁.setTop (mkF m 2 #[.val (.ref a1), .val (.ref w), .val (.ref dd), .val (.int (0 : Int32))] [(.ref dd), (.int (0 : Int32))]))
  obtain ⟨cl19, Ar19, S19⟩ := id (S0.2.1.ext O0.2)
  refine own_by (fun t k => X0.arraylength hx (by rw [e0]; exact Ar19.1) (State.isArrayOf_alike hZ.alike Ar19.2.1) (g := (mkF m 2 #[.val (.ref a1), .val (.ref w), .val (.ref dd), .val (.int (0 : Int32))] [(.ref dd), (.int (0 : Int32))])) rfl rfl (hb hby own_d8_2) t k) ?_
  rw [S19]
  show own_Go p.tables e below K (s₁.setTop (mkF m 3 #[.val (.ref a1), .val (.ref w), .val (.ref dd), .val (.int (0 : Int32))] [(.int (0 : Int32)), (.int (0 : Int32))]))
  have hc3 : (0 : Int32) = (0 : Int32) := by decide
  refine own_by (fun t k => XS.icmpNo X0.here hx rfl (hb hby own_d8_3) rfl (teq hc3).2 k) ?_
  show own_Go p.tables e below K (s₁.setTop (mkF m 6 #[.val (.ref a1), .val (.ref w), .val (.ref dd), .val (.int (0 : Int32))] []))
  refine own_by (fun t k => XS.aloadN X0.here hx rfl (hb hby own_d8_6) rfl rfl k) ?_
  show own_Go p.tables e below K (s₁.setTop (mkF m 7 #[.val (.ref a1), .val (.ref w), .val (.ref dd), .val (.int (0 : Int32))] [(.ref a1)]))
  obtain ⟨cp20, kp20, pa20, -, -, pb20, -⟩ := id B0.1
  obtain ⟨_, _, ⟨T20, L20, k20, n20⟩, -, X20, ⟨Lc20, hQ20, l20, y20, z20⟩, st20⟩ := X0.privateBack hx (y := (⟨"java/util/ArrayList", "grow", "()[Ljava/lang/Object;"⟩ : MethodName)) hown (mvT hZ (hw _ (List.mem_of_getElem? (i := 60) rfl))) (mvT hZ (hw _ (List.mem_of_getElem? (i := 61) rfl))) (mvT hZ (hw _ (List.mem_of_getElem? (i := 63) rfl))) (Cond.privateMethod_at (args := #[]) (mvT hZ (hw _ (List.mem_of_getElem? (i := 62) rfl)))) (mvT hZ (hw _ (List.mem_of_getElem? (i := 64) rfl))) (by decide) (backOf (W := 0) (own_rmgr0 l Z aw hw [] a1 mc dd lz ez em mr h0 n0 Z0 B0 ga O0 S0) hZ (hw _ (List.mem_of_getElem? (i := 64) rfl)) (hw _ (List.mem_of_getElem? (i := 24) rfl)) (by decide) (by decide)) (g := (mkF m 7 #[.val (.ref a1), .val (.ref w), .val (.ref dd), .val (.int (0 : Int32))] [(.ref a1)])) rfl (by rw [hml]; rfl) (Steps.refl _) (a := a1) (by rw [e0]; exact pa20) (fun z q => by rw [q] at pb20; cases pb20) (argsL := []) (rest := []) (lenOf own_pd3 rfl) rfl (by show 2 * 0 + _ ≤ _; exact Nat.le_of_eq rfl) (hb hby own_d8_7) (fun _ _ => ⟨rfl, e0, (by decide : 0 + 1 ≤ _), (by decide : 0 + 10 ≤ _)⟩)
  dsimp only [Pt.U, Pt.locs, Pt.cells, Pt.slots] at X20 l20 y20 z20 st20 hQ20
  subst l20 y20 z20
  obtain ⟨el20, k20c, rfl, N20q, Kp20, gp20, sp20, Bp20, Ap20⟩ := hQ20
  have N20 := Fr.app N0 N20q
  refine own_by (fun t k => st20.trans k) ?_
  have Ex20_a1 := B0.1.keep Kp20
  have Ex20_w := Ew.keep Kp20
  have K20 := (Keep.refl h0 [a1]).trans Kp20 (allS (Or.inl (by simp)) (all0))
  have Z20 := Nat.le_trans Z0 Kp20.1
  have O20 := O0.keep Kp20 (allS ga (all0))
  have sz_el20 : h0.size ≤ el20 := sp20
  show own_Go p.tables e below K (T20.setTop (mkF m 10 #[.val (.ref a1), .val (.ref w), .val (.ref dd), .val (.int (0 : Int32))] [(.ref el20)]))
  refine own_by (fun t k => XS.astoreN X20.here hx rfl (hb hby own_d8_10) rfl rfl (l' := #[.val (.ref a1), .val (.ref w), .val (.ref el20), .val (.int (0 : Int32))]) rfl k) ?_
  show own_Go p.tables e below K (T20.setTop (mkF m 11 #[.val (.ref a1), .val (.ref w), .val (.ref el20), .val (.int (0 : Int32))] []))
  refine own_by (fun t k => XS.aloadN X20.here hx rfl (hb hby own_d8_11) rfl rfl k) ?_
  show own_Go p.tables e below K (T20.setTop (mkF m 12 #[.val (.ref a1), .val (.ref w), .val (.ref el20), .val (.int (0 : Int32))] [(.ref el20)]))
  refine own_by (fun t k => XS.iloadN X20.here hx rfl (hb hby own_d8_12) rfl k) ?_
  show own_Go p.tables e below K (T20.setTop (mkF m 13 #[.val (.ref a1), .val (.ref w), .val (.ref el20), .val (.int (0 : Int32))] [(.int (0 : Int32)), (.ref el20)]))
  refine own_by (fun t k => XS.aloadN X20.here hx rfl (hb hby own_d8_13) rfl rfl k) ?_
  show own_Go p.tables e below K (T20.setTop (mkF m 14 #[.val (.ref a1), .val (.ref w), .val (.ref el20), .val (.int (0 : Int32))] [(.ref w), (.int (0 : Int32)), (.ref el20)]))
  obtain ⟨⟨cl21, Ar21, q21, S21, M21, H21, U21⟩, Ea21, Ov21⟩ := id Ap20
  obtain ⟨T21, h21, X21, e21, W21, st21⟩ := stR X20 hx hZ rfl Ar21 (j := (0 : Int32)) (inb_of S21 ⟨by decide, by decide⟩) rfl (Sto.ofV Ar21 q21 Ov21 (Ins.of_exa Ex20_w (hw _ (List.mem_of_getElem? (i := 76) rfl)))) (g := (mkF m 14 #[.val (.ref a1), .val (.ref w), .val (.ref el20), .val (.int (0 : Int32))] [(.ref w), (.int (0 : Int32)), (.ref el20)])) rfl rfl (hb hby own_d8_14)
  refine own_by st21 ?_
  have xs21 : own_Ar Z h21 el20 k20c (10 : Int32) [(.ref w), .null, .null, .null, .null, .null, .null, .null, .null, .null] := ⟨Arv.set Ar21 q21 S21 M21 H21 U21 rfl W21 0 rfl (Nat.le_of_ble_eq_true rfl), Ea21.wr W21, Ov21⟩
  have F21_modCount_a1 := Bp20.2.1.other W21 (Or.inl (own_Ar.ne Bp20.1 Ap20 (hw _ (List.mem_of_getElem? (i := 23) rfl))))
  have F21_elementData_a1 := Bp20.2.2.1.other W21 (Or.inl (own_Ar.ne Bp20.1 Ap20 (hw _ (List.mem_of_getElem? (i := 23) rfl))))
  have F21_size_a1 := Bp20.2.2.2.other W21 (Or.inl (own_Ar.ne Bp20.1 Ap20 (hw _ (List.mem_of_getElem? (i := 23) rfl))))
  have Ex21_a1 := Bp20.1.wr W21
  have Ex21_w := Ex20_w.wr W21
  have K21 := K20.wr W21 (Or.inr sz_el20)
  have Z21 := Nat.le_trans Z20 (Keep.of_wr W21).1
  have O21 := O20.wr W21 gp20
  have N21 := Fr.snoc X21 N20 gp20
  show own_Go p.tables e below K (T21.setTop (mkF m 15 #[.val (.ref a1), .val (.ref w), .val (.ref el20), .val (.int (0 : Int32))] []))
  refine own_by (fun t k => XS.aloadN X21.here hx rfl (hb hby own_d8_15) rfl rfl k) ?_
  show own_Go p.tables e below K (T21.setTop (mkF m 16 #[.val (.ref a1), .val (.ref w), .val (.ref el20), .val (.int (0 : Int32))] [(.ref a1)]))
  refine own_by (fun t k => XS.iloadN X21.here hx rfl (hb hby own_d8_16) rfl k) ?_
  show own_Go p.tables e below K (T21.setTop (mkF m 17 #[.val (.ref a1), .val (.ref w), .val (.ref el20), .val (.int (0 : Int32))] [(.int (0 : Int32)), (.ref a1)]))
  refine own_by (fun t k => XS.iconst X21.here hx rfl (hb hby own_d8_17) k) ?_
  show own_Go p.tables e below K (T21.setTop (mkF m 18 #[.val (.ref a1), .val (.ref w), .val (.ref el20), .val (.int (0 : Int32))] [(.int (1 : Int32)), (.int (0 : Int32)), (.ref a1)]))
  refine own_by (fun t k => XS.iadd X21.here hx rfl (hb hby own_d8_18) rfl k) ?_
  show own_Go p.tables e below K (T21.setTop (mkF m 19 #[.val (.ref a1), .val (.ref w), .val (.ref el20), .val (.int (0 : Int32))] [(.int (1 : Int32)), (.ref a1)]))
  obtain ⟨T22, h22, X22, e22, W22, st22⟩ := putF X21 hx hZ hown (host := "") (Or.inl (hw _ (List.mem_of_getElem? (i := 53) rfl))) Via.refl e21 F21_size_a1 Ex21_a1 (Or.inl (hw _ (List.mem_of_getElem? (i := 54) rfl))) (hw _ (List.mem_of_getElem? (i := 23) rfl)) (ty := .int) (by decide) rfl rfl (g := (mkF m 19 #[.val (.ref a1), .val (.ref w), .val (.ref el20), .val (.int (0 : Int32))] [(.int (1 : Int32)), (.ref a1)])) rfl rfl (hb hby own_d8_19)
  refine own_by st22 ?_
  have F22_modCount_a1 := F21_modCount_a1.other W22 (Or.inr (slot_ne (Or.inl (hw _ (List.mem_of_getElem? (i := 42) rfl))) (Or.inl (hw _ (List.mem_of_getElem? (i := 54) rfl))) (by decide) (t := .int) (t' := .int) (by decide) (by decide)))
  have F22_elementData_a1 := F21_elementData_a1.other W22 (Or.inr (slot_ne (Or.inl (hw _ (List.mem_of_getElem? (i := 45) rfl))) (Or.inl (hw _ (List.mem_of_getElem? (i := 54) rfl))) (by decide) (t := (.array (.object "java/lang/Object"))) (t' := .int) (by decide) (by decide)))
  have F22_size_a1 := F21_size_a1.same W22
  have xa22_el20 := xs21.other W22 (Ne.symm (own_Ar.ne Ex21_a1 xs21 (hw _ (List.mem_of_getElem? (i := 23) rfl))))
  have Ex22_a1 := Ex21_a1.wr W22
  have Ex22_w := Ex21_w.wr W22
  have K22 := K21.wr W22 (Or.inl (by simp))
  have Z22 := Nat.le_trans Z21 (Keep.of_wr W22).1
  have O22 := O21.wr W22 ga
  have N22 := Fr.snoc X22 N21 ga
  show own_Go p.tables e below K (T22.setTop (mkF m 22 #[.val (.ref a1), .val (.ref w), .val (.ref el20), .val (.int (0 : Int32))] []))
  exact own_retV X22 hx hret (hb hby own_d8_22) (hK none X22 (fun _ => rfl) (by rw [e22]; exact ⟨_, _, rfl, N22, K22, gp20, ⟨Ex22_a1, F22_modCount_a1, F22_elementData_a1, F22_size_a1⟩, xa22_el20⟩) (by decide) (by decide))
theorem own_pd4 : parseMethodDescriptor "(Ljava/lang/Object;[Ljava/lang/Object;I)V" = some ⟨[(.object "java/lang/Object"), (.array (.object "java/lang/Object")), .int], none⟩ := by decide +kernel
theorem own_d7_0 : decode jdk_38_method_25_code 0 = .ok (.aload_n 0, 1) := by decide +kernel
theorem own_d7_1 : decode jdk_38_method_25_code 1 = .ok (.dup, 1) := by decide +kernel
theorem own_d7_2 : decode jdk_38_method_25_code 2 = .ok (.getfield 63, 3) := by decide +kernel
theorem own_d7_5 : decode jdk_38_method_25_code 5 = .ok (.iconst 1, 1) := by decide +kernel
theorem own_d7_6 : decode jdk_38_method_25_code 6 = .ok (.iadd, 1) := by decide +kernel
theorem own_d7_7 : decode jdk_38_method_25_code 7 = .ok (.putfield 63, 3) := by decide +kernel
theorem own_d7_10 : decode jdk_38_method_25_code 10 = .ok (.aload_n 0, 1) := by decide +kernel
theorem own_d7_11 : decode jdk_38_method_25_code 11 = .ok (.aload_n 1, 1) := by decide +kernel
theorem own_d7_12 : decode jdk_38_method_25_code 12 = .ok (.aload_n 0, 1) := by decide +kernel
theorem own_d7_13 : decode jdk_38_method_25_code 13 = .ok (.getfield 9, 3) := by decide +kernel
theorem own_d7_16 : decode jdk_38_method_25_code 16 = .ok (.aload_n 0, 1) := by decide +kernel
theorem own_d7_17 : decode jdk_38_method_25_code 17 = .ok (.getfield 48, 3) := by decide +kernel
theorem own_d7_20 : decode jdk_38_method_25_code 20 = .ok (.invokevirtual 131, 3) := by decide +kernel
theorem own_d7_23 : decode jdk_38_method_25_code 23 = .ok (.iconst 1, 1) := by decide +kernel
theorem own_d7_24 : decode jdk_38_method_25_code 24 = .ok (.ireturn, 1) := by decide +kernel
theorem own_efadd0 (m : MethodId) (a1 : Addr) (w : Addr) : entryFrame m #[(.ref a1), (.ref w)] 2 = mkF m 0 #[.val (.ref a1), .val (.ref w)] [] := by first | (simp [entryFrame, mkF, argsToLocals, Value.category]; done) | rfl
def own_Qadd0 (Z : State) (a1 : Addr) (w : Addr) (mc : Int32) (dd : Addr) (lz : Addr) (ez : Addr) (em : Addr) (mr : Addr) (h0 : Heap) (n0 : Nat) (v : Option Value) (h : Heap) (L : List Loc) : Prop := ∃ (el : Addr) (k : ClassId), v = (some (.int (1 : Int32))) ∧ Fr n0 L ∧ Keep h0 h [a1] ∧ n0 ≤ el ∧ own_AL Z h a1 el (1 : Int32) (mc + 1) ∧ own_Ar Z h el k 10 [(.ref w), .null, .null, .null, .null, .null, .null, .null, .null, .null]
set_option maxRecDepth 65536 in
set_option maxHeartbeats 40000000 in
theorem own_rmadd0 (l : Launch) (Z : State) (aw : Array Value) (hw : ∀ d ∈ tables_1, d.before aw Z = true) (ws : List Jvm.Cond) (a1 : Addr) (w : Addr) (mc : Int32) (dd : Addr) (lz : Addr) (ez : Addr) (em : Addr) (mr : Addr) (h0 : Heap) (n0 : Nat) (Z0 : n0 ≤ h0.size) (B0 : own_AL Z h0 a1 dd (0 : Int32) mc) (Ew : Exa Z h0 w "com/example/skyroster/skyroster/UsedWindow") (ga : n0 ≤ a1)  (O0 : Old Z n0 h0) (S0 : own_St Z dd lz ez em mr) :
    MetFree l (⟨"java/util/ArrayList", "add", "(Ljava/lang/Object;)Z"⟩ : MethodName) (head1 (Jvm.Cond.code (⟨"java/util/ArrayList", "add", "(Ljava/lang/Object;)Z"⟩ : MethodName) jdk_38_method_25_code 2 (some .boolean) :: ws) ({ frames := 4, cells := 1, slots := 10, locals := 80 } : Room)) (fun a U => a = #[(.ref a1), (.ref w)] ∧ Z.Warmed39 U.vm ∧ U.heap = h0) (fun _ _ _ _ _ => True) (fun _ U o U' => ∃ v L, o = .returned v ∧ own_Qadd0 Z a1 w mc dd lz ez em mr h0 n0 v U'.heap L ∧ FrameEnd U o U' L ({ frames := 4, cells := 1, slots := 10, locals := 80 } : Room).cells ({ frames := 4, cells := 1, slots := 10, locals := 80 } : Room).slots) := by
  refine own_met (Q := own_Qadd0 Z a1 w mc dd lz ez em mr h0 n0) (plainFor_of_name own_pn4) ?_
  intro p e s m below meth c s₁ K hx hby hml hown hnm hret hZ X0 e0 hK
  have hown : s.vm.findClass "java/util/ArrayList" = some m.cls := hown
  have N0 := Fr.nil n0
  refine own_by (fun t k => castTop (own_efadd0 m a1 w) k) ?_
  show own_Go p.tables e below K (s₁.setTop (mkF m 0 #[.val (.ref a1), .val (.ref w)] []))
  refine own_by (fun t k => XS.aloadN X0.here hx rfl (hb hby own_d7_0) rfl rfl k) ?_
  show own_Go p.tables e below K (s₁.setTop (mkF m 1 #[.val (.ref a1), .val (.ref w)] [(.ref a1)]))
  refine own_by (fun t k => XS.dup X0.here hx rfl (hb hby own_d7_1) rfl rfl k) ?_
  show own_Go p.tables e below K (s₁.setTop (mkF m 2 #[.val (.ref a1), .val (.ref w)] [(.ref a1), (.ref a1)]))
  obtain ⟨T23, X23, e23, st23⟩ := getF X0 hx hZ hown (host := "") (Or.inl (hw _ (List.mem_of_getElem? (i := 51) rfl))) (Via.of (hw _ (List.mem_of_getElem? (i := 52) rfl))) e0 B0.2.1 (g := (mkF m 2 #[.val (.ref a1), .val (.ref w)] [(.ref a1), (.ref a1)])) rfl rfl (hb hby own_d7_2)
  refine own_by st23 ?_
  show own_Go p.tables e below K (T23.setTop (mkF m 5 #[.val (.ref a1), .val (.ref w)] [(.int mc), (.ref a1)]))
  refine own_by (fun t k => XS.iconst X23.here hx rfl (hb hby own_d7_5) k) ?_
  show own_Go p.tables e below K (T23.setTop (mkF m 6 #[.val (.ref a1), .val (.ref w)] [(.int (1 : Int32)), (.int mc), (.ref a1)]))
  refine own_by (fun t k => XS.iadd X23.here hx rfl (hb hby own_d7_6) rfl k) ?_
  show own_Go p.tables e below K (T23.setTop (mkF m 7 #[.val (.ref a1), .val (.ref w)] [(.int (mc + (1 : Int32))), (.ref a1)]))
  obtain ⟨T24, h24, X24, e24, W24, st24⟩ := putF X23 hx hZ hown (host := "") (Or.inl (hw _ (List.mem_of_getElem? (i := 51) rfl))) (Via.of (hw _ (List.mem_of_getElem? (i := 52) rfl))) e23 B0.2.1 B0.1 (Or.inl (hw _ (List.mem_of_getElem? (i := 42) rfl))) (hw _ (List.mem_of_getElem? (i := 23) rfl)) (ty := .int) (by decide) rfl rfl (g := (mkF m 7 #[.val (.ref a1), .val (.ref w)] [(.int (mc + (1 : Int32))), (.ref a1)])) rfl rfl (hb hby own_d7_7)
  refine own_by st24 ?_
  have F24_modCount_a1 := B0.2.1.same W24
  have F24_elementData_a1 := B0.2.2.1.other W24 (Or.inr (slot_ne (Or.inl (hw _ (List.mem_of_getElem? (i := 45) rfl))) (Or.inl (hw _ (List.mem_of_getElem? (i := 42) rfl))) (by decide) (t := (.array (.object "java/lang/Object"))) (t' := .int) (by decide) (by decide)))
  have F24_size_a1 := B0.2.2.2.other W24 (Or.inr (slot_ne (Or.inl (hw _ (List.mem_of_getElem? (i := 54) rfl))) (Or.inl (hw _ (List.mem_of_getElem? (i := 42) rfl))) (by decide) (t := .int) (t' := .int) (by decide) (by decide)))
  have Ex24_a1 := B0.1.wr W24
  have Ex24_w := Ew.wr W24
  have K24 := (Keep.refl h0 [a1]).wr W24 (Or.inl (by simp))
  have Z24 := Nat.le_trans Z0 (Keep.of_wr W24).1
  have O24 := O0.wr W24 ga
  have N24 := Fr.snoc X24 N0 ga
  show own_Go p.tables e below K (T24.setTop (mkF m 10 #[.val (.ref a1), .val (.ref w)] []))
  refine own_by (fun t k => XS.aloadN X24.here hx rfl (hb hby own_d7_10) rfl rfl k) ?_
  show own_Go p.tables e below K (T24.setTop (mkF m 11 #[.val (.ref a1), .val (.ref w)] [(.ref a1)]))
  refine own_by (fun t k => XS.aloadN X24.here hx rfl (hb hby own_d7_11) rfl rfl k) ?_
  show own_Go p.tables e below K (T24.setTop (mkF m 12 #[.val (.ref a1), .val (.ref w)] [(.ref w), (.ref a1)]))
  refine own_by (fun t k => XS.aloadN X24.here hx rfl (hb hby own_d7_12) rfl rfl k) ?_
  show own_Go p.tables e below K (T24.setTop (mkF m 13 #[.val (.ref a1), .val (.ref w)] [(.ref a1), (.ref w), (.ref a1)]))
  obtain ⟨T25, X25, e25, st25⟩ := getF X24 hx hZ hown (host := "") (Or.inl (hw _ (List.mem_of_getElem? (i := 44) rfl))) Via.refl e24 F24_elementData_a1 (g := (mkF m 13 #[.val (.ref a1), .val (.ref w)] [(.ref a1), (.ref w), (.ref a1)])) rfl rfl (hb hby own_d7_13)
  refine own_by st25 ?_
  show own_Go p.tables e below K (T25.setTop (mkF m 16 #[.val (.ref a1), .val (.ref w)] [(.ref dd), (.ref w), (.ref a1)]))
  refine own_by (fun t k => XS.aloadN X25.here hx rfl (hb hby own_d7_16) rfl rfl k) ?_
  show own_Go p.tables e below K (T25.setTop (mkF m 17 #[.val (.ref a1), .val (.ref w)] [(.ref a1), (.ref dd), (.ref w), (.ref a1)]))
  obtain ⟨T26, X26, e26, st26⟩ := getF X25 hx hZ hown (host := "") (Or.inl (hw _ (List.mem_of_getElem? (i := 53) rfl))) Via.refl e25 F24_size_a1 (g := (mkF m 17 #[.val (.ref a1), .val (.ref w)] [(.ref a1), (.ref dd), (.ref w), (.ref a1)])) rfl rfl (hb hby own_d7_17)
  refine own_by st26 ?_
  show own_Go p.tables e below K (T26.setTop (mkF m 20 #[.val (.ref a1), .val (.ref w)] [(.int (0 : Int32)), (.ref dd), (.ref w), (.ref a1)]))
  obtain ⟨cp27, kp27, pa27, -, -, pb27, -⟩ := id Ex24_a1
  obtain ⟨_, _, ⟨T27, L27, k27, n27⟩, -, X27, ⟨Lc27, hQ27, l27, y27, z27⟩, st27⟩ := X26.privateBack hx (y := (⟨"java/util/ArrayList", "add", "(Ljava/lang/Object;[Ljava/lang/Object;I)V"⟩ : MethodName)) hown (mvT hZ (hw _ (List.mem_of_getElem? (i := 55) rfl))) (mvT hZ (hw _ (List.mem_of_getElem? (i := 56) rfl))) (mvT hZ (hw _ (List.mem_of_getElem? (i := 58) rfl))) (Cond.privateMethod_at (args := #[]) (mvT hZ (hw _ (List.mem_of_getElem? (i := 57) rfl)))) (mvT hZ (hw _ (List.mem_of_getElem? (i := 59) rfl))) (by decide) (backOf (W := 0) (own_rmadi0 l Z aw hw [] a1 w (mc + 1) dd lz ez em mr h24 n0 Z24 ⟨Ex24_a1, F24_modCount_a1, F24_elementData_a1, F24_size_a1⟩ Ex24_w ga O24 S0) hZ (hw _ (List.mem_of_getElem? (i := 59) rfl)) (hw _ (List.mem_of_getElem? (i := 24) rfl)) (by decide) (by decide)) (g := (mkF m 20 #[.val (.ref a1), .val (.ref w)] [(.int (0 : Int32)), (.ref dd), (.ref w), (.ref a1)])) rfl (by rw [hml]; rfl) (Steps.refl _) (a := a1) (by rw [e26]; exact pa27) (fun z q => by rw [q] at pb27; cases pb27) (argsL := [(.ref w), (.ref dd), (.int (0 : Int32))]) (rest := []) (lenOf own_pd4 rfl) rfl (by show 2 * 0 + _ ≤ _; exact Nat.le_of_eq rfl) (hb hby own_d7_20) (fun _ _ => ⟨rfl, e26, (by decide : 0 + 1 ≤ _), (by decide : 0 + 10 ≤ _)⟩)
  dsimp only [Pt.U, Pt.locs, Pt.cells, Pt.slots] at X27 l27 y27 z27 st27 hQ27
  subst l27 y27 z27
  obtain ⟨el27, k27c, rfl, N27q, Kp27, r27⟩ := hQ27
  have N27 := Fr.app N24 N27q
  refine own_by (fun t k => st27.trans k) ?_
  have Ex27_a1 := Ex24_a1.keep Kp27
  have Ex27_w := Ex24_w.keep Kp27
  have K27 := K24.trans Kp27 (allS (Or.inl (by simp)) (all0))
  have Z27 := Nat.le_trans Z24 Kp27.1
  have O27 := O24.keep Kp27 (allS ga (all0))
  show own_Go p.tables e below K (T27.setTop (mkF m 23 #[.val (.ref a1), .val (.ref w)] []))
  refine own_by (fun t k => XS.iconst X27.here hx rfl (hb hby own_d7_23) k) ?_
  show own_Go p.tables e below K (T27.setTop (mkF m 24 #[.val (.ref a1), .val (.ref w)] [(.int (1 : Int32))]))
  exact own_retZ X27 hx (t := .boolean) hret (by simp) (hb hby own_d7_24) (hK (some (.int (1 : Int32))) X27 (fun h => by rw [hret] at h; cases h) (⟨_, _, rfl, N27, K27, r27⟩) (by decide) (by decide))
theorem own_efadi1 (m : MethodId) (a1 : Addr) (w : Addr) (el : Addr) : entryFrame m #[(.ref a1), (.ref w), (.ref el), (.int (1 : Int32))] 4 = mkF m 0 #[.val (.ref a1), .val (.ref w), .val (.ref el), .val (.int (1 : Int32))] [] := by first | (simp [entryFrame, mkF, argsToLocals, Value.category]; done) | rfl
def own_Qadi1 (Z : State) (a1 : Addr) (w : Addr) (mc : Int32) (el : Addr) (k : ClassId) (dd : Addr) (lz : Addr) (ez : Addr) (em : Addr) (mr : Addr) (h0 : Heap) (n0 : Nat) (v : Option Value) (h : Heap) (L : List Loc) : Prop := v = none ∧ Fr n0 L ∧ Keep h0 h [a1, el] ∧ own_AL Z h a1 el (2 : Int32) mc ∧ own_Ar Z h el k 10 [(.ref w), (.ref w), .null, .null, .null, .null, .null, .null, .null, .null]
set_option maxRecDepth 65536 in
set_option maxHeartbeats 40000000 in
theorem own_rmadi1 (l : Launch) (Z : State) (aw : Array Value) (hw : ∀ d ∈ tables_1, d.before aw Z = true) (ws : List Jvm.Cond) (a1 : Addr) (w : Addr) (mc : Int32) (el : Addr) (k : ClassId) (dd : Addr) (lz : Addr) (ez : Addr) (em : Addr) (mr : Addr) (h0 : Heap) (n0 : Nat) (Z0 : n0 ≤ h0.size) (B0 : own_AL Z h0 a1 el (1 : Int32) mc) (Ew : Exa Z h0 w "com/example/skyroster/skyroster/UsedWindow") (ga : n0 ≤ a1) (A0 : own_Ar Z h0 el k 10 [(.ref w), .null, .null, .null, .null, .null, .null, .null, .null, .null]) (ge : n0 ≤ el) (O0 : Old Z n0 h0) (S0 : own_St Z dd lz ez em mr) :
    MetFree l (⟨"java/util/ArrayList", "add", "(Ljava/lang/Object;[Ljava/lang/Object;I)V"⟩ : MethodName) (head1 (Jvm.Cond.code (⟨"java/util/ArrayList", "add", "(Ljava/lang/Object;[Ljava/lang/Object;I)V"⟩ : MethodName) jdk_38_method_24_code 4 none :: ws) ({ frames := 3, cells := 1, slots := 10, locals := 60 } : Room)) (fun a U => a = #[(.ref a1), (.ref w), (.ref el), (.int (1 : Int32))] ∧ Z.Warmed39 U.vm ∧ U.heap = h0) (fun _ _ _ _ _ => True) (fun _ U o U' => ∃ v L, o = .returned v ∧ own_Qadi1 Z a1 w mc el k dd lz ez em mr h0 n0 v U'.heap L ∧ FrameEnd U o U' L ({ frames := 3, cells := 1, slots := 10, locals := 60 } : Room).cells ({ frames := 3, cells := 1, slots := 10, locals := 60 } : Room).slots) := by
  refine own_met (Q := own_Qadi1 Z a1 w mc el k dd lz ez em mr h0 n0) (plainFor_of_name own_pn4) ?_
  intro p e s m below meth c s₁ K hx hby hml hown hnm hret hZ X0 e0 hK
  have hown : s.vm.findClass "java/util/ArrayList" = some m.cls := hown
  have N0 := Fr.nil n0
  refine own_by (fun t k => castTop (own_efadi1 m a1 w el) k) ?_
  show own_Go p.tables e below K (s₁.setTop (mkF m 0 #[.val (.ref a1), .val (.ref w), .val (.ref el), .val (.int (1 : Int32))] []))
  refine own_by (fun t k => XS.iloadN X0.here hx rfl (hb hby own_d8_0) rfl k) ?_
  show own_Go p.tables e below K (s₁.setTop (mkF m 1 #[.val (.ref a1), .val (.ref w), .val (.ref el), .val (.int (1 : Int32))] [(.int (1 : Int32))]))
  refine own_by (fun t k => XS.aloadN X0.here hx rfl (hb hby own_d8_1) rfl rfl k) ?_
  show own_Go p.tables e below K (s₁.setTop (mkF m 2 #[.val (.ref a1), .val (.ref w), .val (.ref el), .val (.int (1 : Int32))] [(.ref el), (.int (1 : Int32))]))
  obtain ⟨⟨cl28, Ar28, -, S28, M28, -⟩, -⟩ := id A0
  refine own_by (fun t k => X0.arraylength hx (by rw [e0]; exact Ar28.1) (State.isArrayOf_alike hZ.alike Ar28.2.1) (g := (mkF m 2 #[.val (.ref a1), .val (.ref w), .val (.ref el), .val (.int (1 : Int32))] [(.ref el), (.int (1 : Int32))])) rfl rfl (hb hby own_d8_2) t k) ?_
  rw [len_of S28 M28]
  show own_Go p.tables e below K (s₁.setTop (mkF m 3 #[.val (.ref a1), .val (.ref w), .val (.ref el), .val (.int (1 : Int32))] [(.int (10 : Int32)), (.int (1 : Int32))]))
  have hc3 : ¬ ((1 : Int32) = (10 : Int32)) := by decide
  refine own_by (fun t k => XS.icmpYes X0.here hx rfl (pc0 := 3) (pc' := 11) rfl (hb hby own_d8_3) rfl (feq hc3).2 (by decide) (by decide) k) ?_
  show own_Go p.tables e below K (s₁.setTop (mkF m 11 #[.val (.ref a1), .val (.ref w), .val (.ref el), .val (.int (1 : Int32))] []))
  refine own_by (fun t k => XS.aloadN X0.here hx rfl (hb hby own_d8_11) rfl rfl k) ?_
  show own_Go p.tables e below K (s₁.setTop (mkF m 12 #[.val (.ref a1), .val (.ref w), .val (.ref el), .val (.int (1 : Int32))] [(.ref el)]))
  refine own_by (fun t k => XS.iloadN X0.here hx rfl (hb hby own_d8_12) rfl k) ?_
  show own_Go p.tables e below K (s₁.setTop (mkF m 13 #[.val (.ref a1), .val (.ref w), .val (.ref el), .val (.int (1 : Int32))] [(.int (1 : Int32)), (.ref el)]))
  refine own_by (fun t k => XS.aloadN X0.here hx rfl (hb hby own_d8_13) rfl rfl k) ?_
  show own_Go p.tables e below K (s₁.setTop (mkF m 14 #[.val (.ref a1), .val (.ref w), .val (.ref el), .val (.int (1 : Int32))] [(.ref w), (.int (1 : Int32)), (.ref el)]))
  obtain ⟨⟨cl29, Ar29, q29, S29, M29, H29, U29⟩, Ea29, Ov29⟩ := id A0
  obtain ⟨T29, h29, X29, e29, W29, st29⟩ := stR X0 hx hZ e0 Ar29 (j := (1 : Int32)) (inb_of S29 ⟨by decide, by decide⟩) rfl (Sto.ofV Ar29 q29 Ov29 (Ins.of_exa Ew (hw _ (List.mem_of_getElem? (i := 76) rfl)))) (g := (mkF m 14 #[.val (.ref a1), .val (.ref w), .val (.ref el), .val (.int (1 : Int32))] [(.ref w), (.int (1 : Int32)), (.ref el)])) rfl rfl (hb hby own_d8_14)
  refine own_by st29 ?_
  have xs29 : own_Ar Z h29 el k (10 : Int32) [(.ref w), (.ref w), .null, .null, .null, .null, .null, .null, .null, .null] := ⟨Arv.set Ar29 q29 S29 M29 H29 U29 rfl W29 1 rfl (Nat.le_of_ble_eq_true rfl), Ea29.wr W29, Ov29⟩
  have F29_modCount_a1 := B0.2.1.other W29 (Or.inl (own_Ar.ne B0.1 A0 (hw _ (List.mem_of_getElem? (i := 23) rfl))))
  have F29_elementData_a1 := B0.2.2.1.other W29 (Or.inl (own_Ar.ne B0.1 A0 (hw _ (List.mem_of_getElem? (i := 23) rfl))))
  have F29_size_a1 := B0.2.2.2.other W29 (Or.inl (own_Ar.ne B0.1 A0 (hw _ (List.mem_of_getElem? (i := 23) rfl))))
  have Ex29_a1 := B0.1.wr W29
  have Ex29_w := Ew.wr W29
  have K29 := (Keep.refl h0 [a1, el]).wr W29 (Or.inl (by simp))
  have Z29 := Nat.le_trans Z0 (Keep.of_wr W29).1
  have O29 := O0.wr W29 ge
  have N29 := Fr.snoc X29 N0 ge
  show own_Go p.tables e below K (T29.setTop (mkF m 15 #[.val (.ref a1), .val (.ref w), .val (.ref el), .val (.int (1 : Int32))] []))
  refine own_by (fun t k => XS.aloadN X29.here hx rfl (hb hby own_d8_15) rfl rfl k) ?_
  show own_Go p.tables e below K (T29.setTop (mkF m 16 #[.val (.ref a1), .val (.ref w), .val (.ref el), .val (.int (1 : Int32))] [(.ref a1)]))
  refine own_by (fun t k => XS.iloadN X29.here hx rfl (hb hby own_d8_16) rfl k) ?_
  show own_Go p.tables e below K (T29.setTop (mkF m 17 #[.val (.ref a1), .val (.ref w), .val (.ref el), .val (.int (1 : Int32))] [(.int (1 : Int32)), (.ref a1)]))
  refine own_by (fun t k => XS.iconst X29.here hx rfl (hb hby own_d8_17) k) ?_
  show own_Go p.tables e below K (T29.setTop (mkF m 18 #[.val (.ref a1), .val (.ref w), .val (.ref el), .val (.int (1 : Int32))] [(.int (1 : Int32)), (.int (1 : Int32)), (.ref a1)]))
  refine own_by (fun t k => XS.iadd X29.here hx rfl (hb hby own_d8_18) rfl k) ?_
  show own_Go p.tables e below K (T29.setTop (mkF m 19 #[.val (.ref a1), .val (.ref w), .val (.ref el), .val (.int (1 : Int32))] [(.int (2 : Int32)), (.ref a1)]))
  obtain ⟨T30, h30, X30, e30, W30, st30⟩ := putF X29 hx hZ hown (host := "") (Or.inl (hw _ (List.mem_of_getElem? (i := 53) rfl))) Via.refl e29 F29_size_a1 Ex29_a1 (Or.inl (hw _ (List.mem_of_getElem? (i := 54) rfl))) (hw _ (List.mem_of_getElem? (i := 23) rfl)) (ty := .int) (by decide) rfl rfl (g := (mkF m 19 #[.val (.ref a1), .val (.ref w), .val (.ref el), .val (.int (1 : Int32))] [(.int (2 : Int32)), (.ref a1)])) rfl rfl (hb hby own_d8_19)
  refine own_by st30 ?_
  have F30_modCount_a1 := F29_modCount_a1.other W30 (Or.inr (slot_ne (Or.inl (hw _ (List.mem_of_getElem? (i := 42) rfl))) (Or.inl (hw _ (List.mem_of_getElem? (i := 54) rfl))) (by decide) (t := .int) (t' := .int) (by decide) (by decide)))
  have F30_elementData_a1 := F29_elementData_a1.other W30 (Or.inr (slot_ne (Or.inl (hw _ (List.mem_of_getElem? (i := 45) rfl))) (Or.inl (hw _ (List.mem_of_getElem? (i := 54) rfl))) (by decide) (t := (.array (.object "java/lang/Object"))) (t' := .int) (by decide) (by decide)))
  have F30_size_a1 := F29_size_a1.same W30
  have xa30_el := xs29.other W30 (Ne.symm (own_Ar.ne Ex29_a1 xs29 (hw _ (List.mem_of_getElem? (i := 23) rfl))))
  have Ex30_a1 := Ex29_a1.wr W30
  have Ex30_w := Ex29_w.wr W30
  have K30 := K29.wr W30 (Or.inl (by simp))
  have Z30 := Nat.le_trans Z29 (Keep.of_wr W30).1
  have O30 := O29.wr W30 ga
  have N30 := Fr.snoc X30 N29 ga
  show own_Go p.tables e below K (T30.setTop (mkF m 22 #[.val (.ref a1), .val (.ref w), .val (.ref el), .val (.int (1 : Int32))] []))
  exact own_retV X30 hx hret (hb hby own_d8_22) (hK none X30 (fun _ => rfl) (by rw [e30]; exact ⟨rfl, N30, K30, ⟨Ex30_a1, F30_modCount_a1, F30_elementData_a1, F30_size_a1⟩, xa30_el⟩) (by decide) (by decide))
theorem own_efadd1 (m : MethodId) (a1 : Addr) (w : Addr) : entryFrame m #[(.ref a1), (.ref w)] 2 = mkF m 0 #[.val (.ref a1), .val (.ref w)] [] := by first | (simp [entryFrame, mkF, argsToLocals, Value.category]; done) | rfl
def own_Qadd1 (Z : State) (a1 : Addr) (w : Addr) (mc : Int32) (el : Addr) (k : ClassId) (dd : Addr) (lz : Addr) (ez : Addr) (em : Addr) (mr : Addr) (h0 : Heap) (n0 : Nat) (v : Option Value) (h : Heap) (L : List Loc) : Prop := v = (some (.int (1 : Int32))) ∧ Fr n0 L ∧ Keep h0 h [a1, el] ∧ own_AL Z h a1 el (2 : Int32) (mc + 1) ∧ own_Ar Z h el k 10 [(.ref w), (.ref w), .null, .null, .null, .null, .null, .null, .null, .null]
set_option maxRecDepth 65536 in
set_option maxHeartbeats 40000000 in
theorem own_rmadd1 (l : Launch) (Z : State) (aw : Array Value) (hw : ∀ d ∈ tables_1, d.before aw Z = true) (ws : List Jvm.Cond) (a1 : Addr) (w : Addr) (mc : Int32) (el : Addr) (k : ClassId) (dd : Addr) (lz : Addr) (ez : Addr) (em : Addr) (mr : Addr) (h0 : Heap) (n0 : Nat) (Z0 : n0 ≤ h0.size) (B0 : own_AL Z h0 a1 el (1 : Int32) mc) (Ew : Exa Z h0 w "com/example/skyroster/skyroster/UsedWindow") (ga : n0 ≤ a1) (A0 : own_Ar Z h0 el k 10 [(.ref w), .null, .null, .null, .null, .null, .null, .null, .null, .null]) (ge : n0 ≤ el) (O0 : Old Z n0 h0) (S0 : own_St Z dd lz ez em mr) :
    MetFree l (⟨"java/util/ArrayList", "add", "(Ljava/lang/Object;)Z"⟩ : MethodName) (head1 (Jvm.Cond.code (⟨"java/util/ArrayList", "add", "(Ljava/lang/Object;)Z"⟩ : MethodName) jdk_38_method_25_code 2 (some .boolean) :: ws) ({ frames := 4, cells := 1, slots := 10, locals := 80 } : Room)) (fun a U => a = #[(.ref a1), (.ref w)] ∧ Z.Warmed39 U.vm ∧ U.heap = h0) (fun _ _ _ _ _ => True) (fun _ U o U' => ∃ v L, o = .returned v ∧ own_Qadd1 Z a1 w mc el k dd lz ez em mr h0 n0 v U'.heap L ∧ FrameEnd U o U' L ({ frames := 4, cells := 1, slots := 10, locals := 80 } : Room).cells ({ frames := 4, cells := 1, slots := 10, locals := 80 } : Room).slots) := by
  refine own_met (Q := own_Qadd1 Z a1 w mc el k dd lz ez em mr h0 n0) (plainFor_of_name own_pn4) ?_
  intro p e s m below meth c s₁ K hx hby hml hown hnm hret hZ X0 e0 hK
  have hown : s.vm.findClass "java/util/ArrayList" = some m.cls := hown
  have N0 := Fr.nil n0
  refine own_by (fun t k => castTop (own_efadd1 m a1 w) k) ?_
  show own_Go p.tables e below K (s₁.setTop (mkF m 0 #[.val (.ref a1), .val (.ref w)] []))
  refine own_by (fun t k => XS.aloadN X0.here hx rfl (hb hby own_d7_0) rfl rfl k) ?_
  show own_Go p.tables e below K (s₁.setTop (mkF m 1 #[.val (.ref a1), .val (.ref w)] [(.ref a1)]))
  refine own_by (fun t k => XS.dup X0.here hx rfl (hb hby own_d7_1) rfl rfl k) ?_
  show own_Go p.tables e below K (s₁.setTop (mkF m 2 #[.val (.ref a1), .val (.ref w)] [(.ref a1), (.ref a1)]))
  obtain ⟨T31, X31, e31, st31⟩ := getF X0 hx hZ hown (host := "") (Or.inl (hw _ (List.mem_of_getElem? (i := 51) rfl))) (Via.of (hw _ (List.mem_of_getElem? (i := 52) rfl))) e0 B0.2.1 (g := (mkF m 2 #[.val (.ref a1), .val (.ref w)] [(.ref a1), (.ref a1)])) rfl rfl (hb hby own_d7_2)
  refine own_by st31 ?_
  show own_Go p.tables e below K (T31.setTop (mkF m 5 #[.val (.ref a1), .val (.ref w)] [(.int mc), (.ref a1)]))
  refine own_by (fun t k => XS.iconst X31.here hx rfl (hb hby own_d7_5) k) ?_
  show own_Go p.tables e below K (T31.setTop (mkF m 6 #[.val (.ref a1), .val (.ref w)] [(.int (1 : Int32)), (.int mc), (.ref a1)]))
  refine own_by (fun t k => XS.iadd X31.here hx rfl (hb hby own_d7_6) rfl k) ?_
  show own_Go p.tables e below K (T31.setTop (mkF m 7 #[.val (.ref a1), .val (.ref w)] [(.int (mc + (1 : Int32))), (.ref a1)]))
  obtain ⟨T32, h32, X32, e32, W32, st32⟩ := putF X31 hx hZ hown (host := "") (Or.inl (hw _ (List.mem_of_getElem? (i := 51) rfl))) (Via.of (hw _ (List.mem_of_getElem? (i := 52) rfl))) e31 B0.2.1 B0.1 (Or.inl (hw _ (List.mem_of_getElem? (i := 42) rfl))) (hw _ (List.mem_of_getElem? (i := 23) rfl)) (ty := .int) (by decide) rfl rfl (g := (mkF m 7 #[.val (.ref a1), .val (.ref w)] [(.int (mc + (1 : Int32))), (.ref a1)])) rfl rfl (hb hby own_d7_7)
  refine own_by st32 ?_
  have F32_modCount_a1 := B0.2.1.same W32
  have F32_elementData_a1 := B0.2.2.1.other W32 (Or.inr (slot_ne (Or.inl (hw _ (List.mem_of_getElem? (i := 45) rfl))) (Or.inl (hw _ (List.mem_of_getElem? (i := 42) rfl))) (by decide) (t := (.array (.object "java/lang/Object"))) (t' := .int) (by decide) (by decide)))
  have F32_size_a1 := B0.2.2.2.other W32 (Or.inr (slot_ne (Or.inl (hw _ (List.mem_of_getElem? (i := 54) rfl))) (Or.inl (hw _ (List.mem_of_getElem? (i := 42) rfl))) (by decide) (t := .int) (t' := .int) (by decide) (by decide)))
  have xa32_el := A0.other W32 (Ne.symm (own_Ar.ne B0.1 A0 (hw _ (List.mem_of_getElem? (i := 23) rfl))))
  have Ex32_a1 := B0.1.wr W32
  have Ex32_w := Ew.wr W32
  have K32 := (Keep.refl h0 [a1, el]).wr W32 (Or.inl (by simp))
  have Z32 := Nat.le_trans Z0 (Keep.of_wr W32).1
  have O32 := O0.wr W32 ga
  have N32 := Fr.snoc X32 N0 ga
  show own_Go p.tables e below K (T32.setTop (mkF m 10 #[.val (.ref a1), .val (.ref w)] []))
  refine own_by (fun t k => XS.aloadN X32.here hx rfl (hb hby own_d7_10) rfl rfl k) ?_
  show own_Go p.tables e below K (T32.setTop (mkF m 11 #[.val (.ref a1), .val (.ref w)] [(.ref a1)]))
  refine own_by (fun t k => XS.aloadN X32.here hx rfl (hb hby own_d7_11) rfl rfl k) ?_
  show own_Go p.tables e below K (T32.setTop (mkF m 12 #[.val (.ref a1), .val (.ref w)] [(.ref w), (.ref a1)]))
  refine own_by (fun t k => XS.aloadN X32.here hx rfl (hb hby own_d7_12) rfl rfl k) ?_
  show own_Go p.tables e below K (T32.setTop (mkF m 13 #[.val (.ref a1), .val (.ref w)] [(.ref a1), (.ref w), (.ref a1)]))
  obtain ⟨T33, X33, e33, st33⟩ := getF X32 hx hZ hown (host := "") (Or.inl (hw _ (List.mem_of_getElem? (i := 44) rfl))) Via.refl e32 F32_elementData_a1 (g := (mkF m 13 #[.val (.ref a1), .val (.ref w)] [(.ref a1), (.ref w), (.ref a1)])) rfl rfl (hb hby own_d7_13)
  refine own_by st33 ?_
  show own_Go p.tables e below K (T33.setTop (mkF m 16 #[.val (.ref a1), .val (.ref w)] [(.ref el), (.ref w), (.ref a1)]))
  refine own_by (fun t k => XS.aloadN X33.here hx rfl (hb hby own_d7_16) rfl rfl k) ?_
  show own_Go p.tables e below K (T33.setTop (mkF m 17 #[.val (.ref a1), .val (.ref w)] [(.ref a1), (.ref el), (.ref w), (.ref a1)]))
  obtain ⟨T34, X34, e34, st34⟩ := getF X33 hx hZ hown (host := "") (Or.inl (hw _ (List.mem_of_getElem? (i := 53) rfl))) Via.refl e33 F32_size_a1 (g := (mkF m 17 #[.val (.ref a1), .val (.ref w)] [(.ref a1), (.ref el), (.ref w), (.ref a1)])) rfl rfl (hb hby own_d7_17)
  refine own_by st34 ?_
  show own_Go p.tables e below K (T34.setTop (mkF m 20 #[.val (.ref a1), .val (.ref w)] [(.int (1 : Int32)), (.ref el), (.ref w), (.ref a1)]))
  obtain ⟨cp35, kp35, pa35, -, -, pb35, -⟩ := id Ex32_a1
  obtain ⟨_, _, ⟨T35, L35, k35, n35⟩, -, X35, ⟨Lc35, hQ35, l35, y35, z35⟩, st35⟩ := X34.privateBack hx (y := (⟨"java/util/ArrayList", "add", "(Ljava/lang/Object;[Ljava/lang/Object;I)V"⟩ : MethodName)) hown (mvT hZ (hw _ (List.mem_of_getElem? (i := 55) rfl))) (mvT hZ (hw _ (List.mem_of_getElem? (i := 56) rfl))) (mvT hZ (hw _ (List.mem_of_getElem? (i := 58) rfl))) (Cond.privateMethod_at (args := #[]) (mvT hZ (hw _ (List.mem_of_getElem? (i := 57) rfl)))) (mvT hZ (hw _ (List.mem_of_getElem? (i := 59) rfl))) (by decide) (backOf (W := 0) (own_rmadi1 l Z aw hw [] a1 w (mc + 1) el k dd lz ez em mr h32 n0 Z32 ⟨Ex32_a1, F32_modCount_a1, F32_elementData_a1, F32_size_a1⟩ Ex32_w ga xa32_el ge O32 S0) hZ (hw _ (List.mem_of_getElem? (i := 59) rfl)) (hw _ (List.mem_of_getElem? (i := 24) rfl)) (by decide) (by decide)) (g := (mkF m 20 #[.val (.ref a1), .val (.ref w)] [(.int (1 : Int32)), (.ref el), (.ref w), (.ref a1)])) rfl (by rw [hml]; rfl) (Steps.refl _) (a := a1) (by rw [e34]; exact pa35) (fun z q => by rw [q] at pb35; cases pb35) (argsL := [(.ref w), (.ref el), (.int (1 : Int32))]) (rest := []) (lenOf own_pd4 rfl) rfl (by show 2 * 0 + _ ≤ _; exact Nat.le_of_eq rfl) (hb hby own_d7_20) (fun _ _ => ⟨rfl, e34, (by decide : 0 + 1 ≤ _), (by decide : 0 + 10 ≤ _)⟩)
  dsimp only [Pt.U, Pt.locs, Pt.cells, Pt.slots] at X35 l35 y35 z35 st35 hQ35
  subst l35 y35 z35
  obtain ⟨rfl, N35q, Kp35, r35⟩ := hQ35
  have N35 := Fr.app N32 N35q
  refine own_by (fun t k => st35.trans k) ?_
  have Ex35_a1 := Ex32_a1.keep Kp35
  have Ex35_w := Ex32_w.keep Kp35
  have K35 := K32.trans Kp35 (allS (Or.inl (by simp)) (allS (Or.inl (by simp)) (all0)))
  have Z35 := Nat.le_trans Z32 Kp35.1
  have O35 := O32.keep Kp35 (allS ga (allS ge (all0)))
  show own_Go p.tables e below K (T35.setTop (mkF m 23 #[.val (.ref a1), .val (.ref w)] []))
  refine own_by (fun t k => XS.iconst X35.here hx rfl (hb hby own_d7_23) k) ?_
  show own_Go p.tables e below K (T35.setTop (mkF m 24 #[.val (.ref a1), .val (.ref w)] [(.int (1 : Int32))]))
  exact own_retZ X35 hx (t := .boolean) hret (by simp) (hb hby own_d7_24) (hK (some (.int (1 : Int32))) X35 (fun h => by rw [hret] at h; cases h) (⟨rfl, N35, K35, r35⟩) (by decide) (by decide))
theorem own_efadi2 (m : MethodId) (a1 : Addr) (w : Addr) (el : Addr) : entryFrame m #[(.ref a1), (.ref w), (.ref el), (.int (2 : Int32))] 4 = mkF m 0 #[.val (.ref a1), .val (.ref w), .val (.ref el), .val (.int (2 : Int32))] [] := by first | (simp [entryFrame, mkF, argsToLocals, Value.category]; done) | rfl
def own_Qadi2 (Z : State) (a1 : Addr) (w : Addr) (mc : Int32) (el : Addr) (k : ClassId) (dd : Addr) (lz : Addr) (ez : Addr) (em : Addr) (mr : Addr) (h0 : Heap) (n0 : Nat) (v : Option Value) (h : Heap) (L : List Loc) : Prop := v = none ∧ Fr n0 L ∧ Keep h0 h [a1, el] ∧ own_AL Z h a1 el (3 : Int32) mc ∧ own_Ar Z h el k 10 [(.ref w), (.ref w), (.ref w), .null, .null, .null, .null, .null, .null, .null]
set_option maxRecDepth 65536 in
set_option maxHeartbeats 40000000 in
theorem own_rmadi2 (l : Launch) (Z : State) (aw : Array Value) (hw : ∀ d ∈ tables_1, d.before aw Z = true) (ws : List Jvm.Cond) (a1 : Addr) (w : Addr) (mc : Int32) (el : Addr) (k : ClassId) (dd : Addr) (lz : Addr) (ez : Addr) (em : Addr) (mr : Addr) (h0 : Heap) (n0 : Nat) (Z0 : n0 ≤ h0.size) (B0 : own_AL Z h0 a1 el (2 : Int32) mc) (Ew : Exa Z h0 w "com/example/skyroster/skyroster/UsedWindow") (ga : n0 ≤ a1) (A0 : own_Ar Z h0 el k 10 [(.ref w), (.ref w), .null, .null, .null, .null, .null, .null, .null, .null]) (ge : n0 ≤ el) (O0 : Old Z n0 h0) (S0 : own_St Z dd lz ez em mr) :
    MetFree l (⟨"java/util/ArrayList", "add", "(Ljava/lang/Object;[Ljava/lang/Object;I)V"⟩ : MethodName) (head1 (Jvm.Cond.code (⟨"java/util/ArrayList", "add", "(Ljava/lang/Object;[Ljava/lang/Object;I)V"⟩ : MethodName) jdk_38_method_24_code 4 none :: ws) ({ frames := 3, cells := 1, slots := 10, locals := 60 } : Room)) (fun a U => a = #[(.ref a1), (.ref w), (.ref el), (.int (2 : Int32))] ∧ Z.Warmed39 U.vm ∧ U.heap = h0) (fun _ _ _ _ _ => True) (fun _ U o U' => ∃ v L, o = .returned v ∧ own_Qadi2 Z a1 w mc el k dd lz ez em mr h0 n0 v U'.heap L ∧ FrameEnd U o U' L ({ frames := 3, cells := 1, slots := 10, locals := 60 } : Room).cells ({ frames := 3, cells := 1, slots := 10, locals := 60 } : Room).slots) := by
  refine own_met (Q := own_Qadi2 Z a1 w mc el k dd lz ez em mr h0 n0) (plainFor_of_name own_pn4) ?_
  intro p e s m below meth c s₁ K hx hby hml hown hnm hret hZ X0 e0 hK
  have hown : s.vm.findClass "java/util/ArrayList" = some m.cls := hown
  have N0 := Fr.nil n0
  refine own_by (fun t k => castTop (own_efadi2 m a1 w el) k) ?_
  show own_Go p.tables e below K (s₁.setTop (mkF m 0 #[.val (.ref a1), .val (.ref w), .val (.ref el), .val (.int (2 : Int32))] []))
  refine own_by (fun t k => XS.iloadN X0.here hx rfl (hb hby own_d8_0) rfl k) ?_
  show own_Go p.tables e below K (s₁.setTop (mkF m 1 #[.val (.ref a1), .val (.ref w), .val (.ref el), .val (.int (2 : Int32))] [(.int (2 : Int32))]))
  refine own_by (fun t k => XS.aloadN X0.here hx rfl (hb hby own_d8_1) rfl rfl k) ?_
  show own_Go p.tables e below K (s₁.setTop (mkF m 2 #[.val (.ref a1), .val (.ref w), .val (.ref el), .val (.int (2 : Int32))] [(.ref el), (.int (2 : Int32))]))
  obtain ⟨⟨cl36, Ar36, -, S36, M36, -⟩, -⟩ := id A0
  refine own_by (fun t k => X0.arraylength hx (by rw [e0]; exact Ar36.1) (State.isArrayOf_alike hZ.alike Ar36.2.1) (g := (mkF m 2 #[.val (.ref a1), .val (.ref w), .val (.ref el), .val (.int (2 : Int32))] [(.ref el), (.int (2 : Int32))])) rfl rfl (hb hby own_d8_2) t k) ?_
  rw [len_of S36 M36]
  show own_Go p.tables e below K (s₁.setTop (mkF m 3 #[.val (.ref a1), .val (.ref w), .val (.ref el), .val (.int (2 : Int32))] [(.int (10 : Int32)), (.int (2 : Int32))]))
  have hc3 : ¬ ((2 : Int32) = (10 : Int32)) := by decide
  refine own_by (fun t k => XS.icmpYes X0.here hx rfl (pc0 := 3) (pc' := 11) rfl (hb hby own_d8_3) rfl (feq hc3).2 (by decide) (by decide) k) ?_
  show own_Go p.tables e below K (s₁.setTop (mkF m 11 #[.val (.ref a1), .val (.ref w), .val (.ref el), .val (.int (2 : Int32))] []))
  refine own_by (fun t k => XS.aloadN X0.here hx rfl (hb hby own_d8_11) rfl rfl k) ?_
  show own_Go p.tables e below K (s₁.setTop (mkF m 12 #[.val (.ref a1), .val (.ref w), .val (.ref el), .val (.int (2 : Int32))] [(.ref el)]))
  refine own_by (fun t k => XS.iloadN X0.here hx rfl (hb hby own_d8_12) rfl k) ?_
  show own_Go p.tables e below K (s₁.setTop (mkF m 13 #[.val (.ref a1), .val (.ref w), .val (.ref el), .val (.int (2 : Int32))] [(.int (2 : Int32)), (.ref el)]))
  refine own_by (fun t k => XS.aloadN X0.here hx rfl (hb hby own_d8_13) rfl rfl k) ?_
  show own_Go p.tables e below K (s₁.setTop (mkF m 14 #[.val (.ref a1), .val (.ref w), .val (.ref el), .val (.int (2 : Int32))] [(.ref w), (.int (2 : Int32)), (.ref el)]))
  obtain ⟨⟨cl37, Ar37, q37, S37, M37, H37, U37⟩, Ea37, Ov37⟩ := id A0
  obtain ⟨T37, h37, X37, e37, W37, st37⟩ := stR X0 hx hZ e0 Ar37 (j := (2 : Int32)) (inb_of S37 ⟨by decide, by decide⟩) rfl (Sto.ofV Ar37 q37 Ov37 (Ins.of_exa Ew (hw _ (List.mem_of_getElem? (i := 76) rfl)))) (g := (mkF m 14 #[.val (.ref a1), .val (.ref w), .val (.ref el), .val (.int (2 : Int32))] [(.ref w), (.int (2 : Int32)), (.ref el)])) rfl rfl (hb hby own_d8_14)
  refine own_by st37 ?_
  have xs37 : own_Ar Z h37 el k (10 : Int32) [(.ref w), (.ref w), (.ref w), .null, .null, .null, .null, .null, .null, .null] := ⟨Arv.set Ar37 q37 S37 M37 H37 U37 rfl W37 2 rfl (Nat.le_of_ble_eq_true rfl), Ea37.wr W37, Ov37⟩
  have F37_modCount_a1 := B0.2.1.other W37 (Or.inl (own_Ar.ne B0.1 A0 (hw _ (List.mem_of_getElem? (i := 23) rfl))))
  have F37_elementData_a1 := B0.2.2.1.other W37 (Or.inl (own_Ar.ne B0.1 A0 (hw _ (List.mem_of_getElem? (i := 23) rfl))))
  have F37_size_a1 := B0.2.2.2.other W37 (Or.inl (own_Ar.ne B0.1 A0 (hw _ (List.mem_of_getElem? (i := 23) rfl))))
  have Ex37_a1 := B0.1.wr W37
  have Ex37_w := Ew.wr W37
  have K37 := (Keep.refl h0 [a1, el]).wr W37 (Or.inl (by simp))
  have Z37 := Nat.le_trans Z0 (Keep.of_wr W37).1
  have O37 := O0.wr W37 ge
  have N37 := Fr.snoc X37 N0 ge
  show own_Go p.tables e below K (T37.setTop (mkF m 15 #[.val (.ref a1), .val (.ref w), .val (.ref el), .val (.int (2 : Int32))] []))
  refine own_by (fun t k => XS.aloadN X37.here hx rfl (hb hby own_d8_15) rfl rfl k) ?_
  show own_Go p.tables e below K (T37.setTop (mkF m 16 #[.val (.ref a1), .val (.ref w), .val (.ref el), .val (.int (2 : Int32))] [(.ref a1)]))
  refine own_by (fun t k => XS.iloadN X37.here hx rfl (hb hby own_d8_16) rfl k) ?_
  show own_Go p.tables e below K (T37.setTop (mkF m 17 #[.val (.ref a1), .val (.ref w), .val (.ref el), .val (.int (2 : Int32))] [(.int (2 : Int32)), (.ref a1)]))
  refine own_by (fun t k => XS.iconst X37.here hx rfl (hb hby own_d8_17) k) ?_
  show own_Go p.tables e below K (T37.setTop (mkF m 18 #[.val (.ref a1), .val (.ref w), .val (.ref el), .val (.int (2 : Int32))] [(.int (1 : Int32)), (.int (2 : Int32)), (.ref a1)]))
  refine own_by (fun t k => XS.iadd X37.here hx rfl (hb hby own_d8_18) rfl k) ?_
  show own_Go p.tables e below K (T37.setTop (mkF m 19 #[.val (.ref a1), .val (.ref w), .val (.ref el), .val (.int (2 : Int32))] [(.int (3 : Int32)), (.ref a1)]))
  obtain ⟨T38, h38, X38, e38, W38, st38⟩ := putF X37 hx hZ hown (host := "") (Or.inl (hw _ (List.mem_of_getElem? (i := 53) rfl))) Via.refl e37 F37_size_a1 Ex37_a1 (Or.inl (hw _ (List.mem_of_getElem? (i := 54) rfl))) (hw _ (List.mem_of_getElem? (i := 23) rfl)) (ty := .int) (by decide) rfl rfl (g := (mkF m 19 #[.val (.ref a1), .val (.ref w), .val (.ref el), .val (.int (2 : Int32))] [(.int (3 : Int32)), (.ref a1)])) rfl rfl (hb hby own_d8_19)
  refine own_by st38 ?_
  have F38_modCount_a1 := F37_modCount_a1.other W38 (Or.inr (slot_ne (Or.inl (hw _ (List.mem_of_getElem? (i := 42) rfl))) (Or.inl (hw _ (List.mem_of_getElem? (i := 54) rfl))) (by decide) (t := .int) (t' := .int) (by decide) (by decide)))
  have F38_elementData_a1 := F37_elementData_a1.other W38 (Or.inr (slot_ne (Or.inl (hw _ (List.mem_of_getElem? (i := 45) rfl))) (Or.inl (hw _ (List.mem_of_getElem? (i := 54) rfl))) (by decide) (t := (.array (.object "java/lang/Object"))) (t' := .int) (by decide) (by decide)))
  have F38_size_a1 := F37_size_a1.same W38
  have xa38_el := xs37.other W38 (Ne.symm (own_Ar.ne Ex37_a1 xs37 (hw _ (List.mem_of_getElem? (i := 23) rfl))))
  have Ex38_a1 := Ex37_a1.wr W38
  have Ex38_w := Ex37_w.wr W38
  have K38 := K37.wr W38 (Or.inl (by simp))
  have Z38 := Nat.le_trans Z37 (Keep.of_wr W38).1
  have O38 := O37.wr W38 ga
  have N38 := Fr.snoc X38 N37 ga
  show own_Go p.tables e below K (T38.setTop (mkF m 22 #[.val (.ref a1), .val (.ref w), .val (.ref el), .val (.int (2 : Int32))] []))
  exact own_retV X38 hx hret (hb hby own_d8_22) (hK none X38 (fun _ => rfl) (by rw [e38]; exact ⟨rfl, N38, K38, ⟨Ex38_a1, F38_modCount_a1, F38_elementData_a1, F38_size_a1⟩, xa38_el⟩) (by decide) (by decide))
theorem own_efadd2 (m : MethodId) (a1 : Addr) (w : Addr) : entryFrame m #[(.ref a1), (.ref w)] 2 = mkF m 0 #[.val (.ref a1), .val (.ref w)] [] := by first | (simp [entryFrame, mkF, argsToLocals, Value.category]; done) | rfl
def own_Qadd2 (Z : State) (a1 : Addr) (w : Addr) (mc : Int32) (el : Addr) (k : ClassId) (dd : Addr) (lz : Addr) (ez : Addr) (em : Addr) (mr : Addr) (h0 : Heap) (n0 : Nat) (v : Option Value) (h : Heap) (L : List Loc) : Prop := v = (some (.int (1 : Int32))) ∧ Fr n0 L ∧ Keep h0 h [a1, el] ∧ own_AL Z h a1 el (3 : Int32) (mc + 1) ∧ own_Ar Z h el k 10 [(.ref w), (.ref w), (.ref w), .null, .null, .null, .null, .null, .null, .null]
set_option maxRecDepth 65536 in
set_option maxHeartbeats 40000000 in
theorem own_rmadd2 (l : Launch) (Z : State) (aw : Array Value) (hw : ∀ d ∈ tables_1, d.before aw Z = true) (ws : List Jvm.Cond) (a1 : Addr) (w : Addr) (mc : Int32) (el : Addr) (k : ClassId) (dd : Addr) (lz : Addr) (ez : Addr) (em : Addr) (mr : Addr) (h0 : Heap) (n0 : Nat) (Z0 : n0 ≤ h0.size) (B0 : own_AL Z h0 a1 el (2 : Int32) mc) (Ew : Exa Z h0 w "com/example/skyroster/skyroster/UsedWindow") (ga : n0 ≤ a1) (A0 : own_Ar Z h0 el k 10 [(.ref w), (.ref w), .null, .null, .null, .null, .null, .null, .null, .null]) (ge : n0 ≤ el) (O0 : Old Z n0 h0) (S0 : own_St Z dd lz ez em mr) :
    MetFree l (⟨"java/util/ArrayList", "add", "(Ljava/lang/Object;)Z"⟩ : MethodName) (head1 (Jvm.Cond.code (⟨"java/util/ArrayList", "add", "(Ljava/lang/Object;)Z"⟩ : MethodName) jdk_38_method_25_code 2 (some .boolean) :: ws) ({ frames := 4, cells := 1, slots := 10, locals := 80 } : Room)) (fun a U => a = #[(.ref a1), (.ref w)] ∧ Z.Warmed39 U.vm ∧ U.heap = h0) (fun _ _ _ _ _ => True) (fun _ U o U' => ∃ v L, o = .returned v ∧ own_Qadd2 Z a1 w mc el k dd lz ez em mr h0 n0 v U'.heap L ∧ FrameEnd U o U' L ({ frames := 4, cells := 1, slots := 10, locals := 80 } : Room).cells ({ frames := 4, cells := 1, slots := 10, locals := 80 } : Room).slots) := by
  refine own_met (Q := own_Qadd2 Z a1 w mc el k dd lz ez em mr h0 n0) (plainFor_of_name own_pn4) ?_
  intro p e s m below meth c s₁ K hx hby hml hown hnm hret hZ X0 e0 hK
  have hown : s.vm.findClass "java/util/ArrayList" = some m.cls := hown
  have N0 := Fr.nil n0
  refine own_by (fun t k => castTop (own_efadd2 m a1 w) k) ?_
  show own_Go p.tables e below K (s₁.setTop (mkF m 0 #[.val (.ref a1), .val (.ref w)] []))
  refine own_by (fun t k => XS.aloadN X0.here hx rfl (hb hby own_d7_0) rfl rfl k) ?_
  show own_Go p.tables e below K (s₁.setTop (mkF m 1 #[.val (.ref a1), .val (.ref w)] [(.ref a1)]))
  refine own_by (fun t k => XS.dup X0.here hx rfl (hb hby own_d7_1) rfl rfl k) ?_
  show own_Go p.tables e below K (s₁.setTop (mkF m 2 #[.val (.ref a1), .val (.ref w)] [(.ref a1), (.ref a1)]))
  obtain ⟨T39, X39, e39, st39⟩ := getF X0 hx hZ hown (host := "") (Or.inl (hw _ (List.mem_of_getElem? (i := 51) rfl))) (Via.of (hw _ (List.mem_of_getElem? (i := 52) rfl))) e0 B0.2.1 (g := (mkF m 2 #[.val (.ref a1), .val (.ref w)] [(.ref a1), (.ref a1)])) rfl rfl (hb hby own_d7_2)
  refine own_by st39 ?_
  show own_Go p.tables e below K (T39.setTop (mkF m 5 #[.val (.ref a1), .val (.ref w)] [(.int mc), (.ref a1)]))
  refine own_by (fun t k => XS.iconst X39.here hx rfl (hb hby own_d7_5) k) ?_
  show own_Go p.tables e below K (T39.setTop (mkF m 6 #[.val (.ref a1), .val (.ref w)] [(.int (1 : Int32)), (.int mc), (.ref a1)]))
  refine own_by (fun t k => XS.iadd X39.here hx rfl (hb hby own_d7_6) rfl k) ?_
  show own_Go p.tables e below K (T39.setTop (mkF m 7 #[.val (.ref a1), .val (.ref w)] [(.int (mc + (1 : Int32))), (.ref a1)]))
  obtain ⟨T40, h40, X40, e40, W40, st40⟩ := putF X39 hx hZ hown (host := "") (Or.inl (hw _ (List.mem_of_getElem? (i := 51) rfl))) (Via.of (hw _ (List.mem_of_getElem? (i := 52) rfl))) e39 B0.2.1 B0.1 (Or.inl (hw _ (List.mem_of_getElem? (i := 42) rfl))) (hw _ (List.mem_of_getElem? (i := 23) rfl)) (ty := .int) (by decide) rfl rfl (g := (mkF m 7 #[.val (.ref a1), .val (.ref w)] [(.int (mc + (1 : Int32))), (.ref a1)])) rfl rfl (hb hby own_d7_7)
  refine own_by st40 ?_
  have F40_modCount_a1 := B0.2.1.same W40
  have F40_elementData_a1 := B0.2.2.1.other W40 (Or.inr (slot_ne (Or.inl (hw _ (List.mem_of_getElem? (i := 45) rfl))) (Or.inl (hw _ (List.mem_of_getElem? (i := 42) rfl))) (by decide) (t := (.array (.object "java/lang/Object"))) (t' := .int) (by decide) (by decide)))
  have F40_size_a1 := B0.2.2.2.other W40 (Or.inr (slot_ne (Or.inl (hw _ (List.mem_of_getElem? (i := 54) rfl))) (Or.inl (hw _ (List.mem_of_getElem? (i := 42) rfl))) (by decide) (t := .int) (t' := .int) (by decide) (by decide)))
  have xa40_el := A0.other W40 (Ne.symm (own_Ar.ne B0.1 A0 (hw _ (List.mem_of_getElem? (i := 23) rfl))))
  have Ex40_a1 := B0.1.wr W40
  have Ex40_w := Ew.wr W40
  have K40 := (Keep.refl h0 [a1, el]).wr W40 (Or.inl (by simp))
  have Z40 := Nat.le_trans Z0 (Keep.of_wr W40).1
  have O40 := O0.wr W40 ga
  have N40 := Fr.snoc X40 N0 ga
  show own_Go p.tables e below K (T40.setTop (mkF m 10 #[.val (.ref a1), .val (.ref w)] []))
  refine own_by (fun t k => XS.aloadN X40.here hx rfl (hb hby own_d7_10) rfl rfl k) ?_
  show own_Go p.tables e below K (T40.setTop (mkF m 11 #[.val (.ref a1), .val (.ref w)] [(.ref a1)]))
  refine own_by (fun t k => XS.aloadN X40.here hx rfl (hb hby own_d7_11) rfl rfl k) ?_
  show own_Go p.tables e below K (T40.setTop (mkF m 12 #[.val (.ref a1), .val (.ref w)] [(.ref w), (.ref a1)]))
  refine own_by (fun t k => XS.aloadN X40.here hx rfl (hb hby own_d7_12) rfl rfl k) ?_
  show own_Go p.tables e below K (T40.setTop (mkF m 13 #[.val (.ref a1), .val (.ref w)] [(.ref a1), (.ref w), (.ref a1)]))
  obtain ⟨T41, X41, e41, st41⟩ := getF X40 hx hZ hown (host := "") (Or.inl (hw _ (List.mem_of_getElem? (i := 44) rfl))) Via.refl e40 F40_elementData_a1 (g := (mkF m 13 #[.val (.ref a1), .val (.ref w)] [(.ref a1), (.ref w), (.ref a1)])) rfl rfl (hb hby own_d7_13)
  refine own_by st41 ?_
  show own_Go p.tables e below K (T41.setTop (mkF m 16 #[.val (.ref a1), .val (.ref w)] [(.ref el), (.ref w), (.ref a1)]))
  refine own_by (fun t k => XS.aloadN X41.here hx rfl (hb hby own_d7_16) rfl rfl k) ?_
  show own_Go p.tables e below K (T41.setTop (mkF m 17 #[.val (.ref a1), .val (.ref w)] [(.ref a1), (.ref el), (.ref w), (.ref a1)]))
  obtain ⟨T42, X42, e42, st42⟩ := getF X41 hx hZ hown (host := "") (Or.inl (hw _ (List.mem_of_getElem? (i := 53) rfl))) Via.refl e41 F40_size_a1 (g := (mkF m 17 #[.val (.ref a1), .val (.ref w)] [(.ref a1), (.ref el), (.ref w), (.ref a1)])) rfl rfl (hb hby own_d7_17)
  refine own_by st42 ?_
  show own_Go p.tables e below K (T42.setTop (mkF m 20 #[.val (.ref a1), .val (.ref w)] [(.int (2 : Int32)), (.ref el), (.ref w), (.ref a1)]))
  obtain ⟨cp43, kp43, pa43, -, -, pb43, -⟩ := id Ex40_a1
  obtain ⟨_, _, ⟨T43, L43, k43, n43⟩, -, X43, ⟨Lc43, hQ43, l43, y43, z43⟩, st43⟩ := X42.privateBack hx (y := (⟨"java/util/ArrayList", "add", "(Ljava/lang/Object;[Ljava/lang/Object;I)V"⟩ : MethodName)) hown (mvT hZ (hw _ (List.mem_of_getElem? (i := 55) rfl))) (mvT hZ (hw _ (List.mem_of_getElem? (i := 56) rfl))) (mvT hZ (hw _ (List.mem_of_getElem? (i := 58) rfl))) (Cond.privateMethod_at (args := #[]) (mvT hZ (hw _ (List.mem_of_getElem? (i := 57) rfl)))) (mvT hZ (hw _ (List.mem_of_getElem? (i := 59) rfl))) (by decide) (backOf (W := 0) (own_rmadi2 l Z aw hw [] a1 w (mc + 1) el k dd lz ez em mr h40 n0 Z40 ⟨Ex40_a1, F40_modCount_a1, F40_elementData_a1, F40_size_a1⟩ Ex40_w ga xa40_el ge O40 S0) hZ (hw _ (List.mem_of_getElem? (i := 59) rfl)) (hw _ (List.mem_of_getElem? (i := 24) rfl)) (by decide) (by decide)) (g := (mkF m 20 #[.val (.ref a1), .val (.ref w)] [(.int (2 : Int32)), (.ref el), (.ref w), (.ref a1)])) rfl (by rw [hml]; rfl) (Steps.refl _) (a := a1) (by rw [e42]; exact pa43) (fun z q => by rw [q] at pb43; cases pb43) (argsL := [(.ref w), (.ref el), (.int (2 : Int32))]) (rest := []) (lenOf own_pd4 rfl) rfl (by show 2 * 0 + _ ≤ _; exact Nat.le_of_eq rfl) (hb hby own_d7_20) (fun _ _ => ⟨rfl, e42, (by decide : 0 + 1 ≤ _), (by decide : 0 + 10 ≤ _)⟩)
  dsimp only [Pt.U, Pt.locs, Pt.cells, Pt.slots] at X43 l43 y43 z43 st43 hQ43
  subst l43 y43 z43
  obtain ⟨rfl, N43q, Kp43, r43⟩ := hQ43
  have N43 := Fr.app N40 N43q
  refine own_by (fun t k => st43.trans k) ?_
  have Ex43_a1 := Ex40_a1.keep Kp43
  have Ex43_w := Ex40_w.keep Kp43
  have K43 := K40.trans Kp43 (allS (Or.inl (by simp)) (allS (Or.inl (by simp)) (all0)))
  have Z43 := Nat.le_trans Z40 Kp43.1
  have O43 := O40.keep Kp43 (allS ga (allS ge (all0)))
  show own_Go p.tables e below K (T43.setTop (mkF m 23 #[.val (.ref a1), .val (.ref w)] []))
  refine own_by (fun t k => XS.iconst X43.here hx rfl (hb hby own_d7_23) k) ?_
  show own_Go p.tables e below K (T43.setTop (mkF m 24 #[.val (.ref a1), .val (.ref w)] [(.int (1 : Int32))]))
  exact own_retZ X43 hx (t := .boolean) hret (by simp) (hb hby own_d7_24) (hK (some (.int (1 : Int32))) X43 (fun h => by rw [hret] at h; cases h) (⟨rfl, N43, K43, r43⟩) (by decide) (by decide))
theorem own_d15_0 : decode jdk_38_method_9_code 0 = .ok (.aload_n 0, 1) := by decide +kernel
theorem own_d15_1 : decode jdk_38_method_9_code 1 = .ok (.getfield 48, 3) := by decide +kernel
theorem own_d15_4 : decode jdk_38_method_9_code 4 = .ok (.ifCond .ne 7, 3) := by decide +kernel
theorem own_d15_7 : decode jdk_38_method_9_code 7 = .ok (.iconst 1, 1) := by decide +kernel
theorem own_d15_8 : decode jdk_38_method_9_code 8 = .ok (.goto 4, 3) := by decide +kernel
theorem own_d15_11 : decode jdk_38_method_9_code 11 = .ok (.iconst 0, 1) := by decide +kernel
theorem own_d15_12 : decode jdk_38_method_9_code 12 = .ok (.ireturn, 1) := by decide +kernel
theorem own_efise (m : MethodId) (a1 : Addr) : entryFrame m #[(.ref a1)] 1 = mkF m 0 #[.val (.ref a1)] [] := by first | (simp [entryFrame, mkF, argsToLocals, Value.category]; done) | rfl
def own_Qise (Z : State) (a1 : Addr) (el : Addr) (n : Int32) (mc : Int32) (h0 : Heap) (n0 : Nat) (v : Option Value) (h : Heap) (L : List Loc) : Prop := v = some (.int (own_zI n)) ∧ Fr n0 L ∧ h = h0
set_option maxRecDepth 65536 in
set_option maxHeartbeats 40000000 in
theorem own_rmise (l : Launch) (Z : State) (aw : Array Value) (hw : ∀ d ∈ tables_1, d.before aw Z = true) (ws : List Jvm.Cond) (a1 : Addr) (el : Addr) (n : Int32) (mc : Int32) (h0 : Heap) (n0 : Nat) (Z0 : n0 ≤ h0.size) (B0 : own_AL Z h0 a1 el n mc) :
    MetFree l (⟨"java/util/ArrayList", "isEmpty", "()Z"⟩ : MethodName) (head1 (Jvm.Cond.code (⟨"java/util/ArrayList", "isEmpty", "()Z"⟩ : MethodName) jdk_38_method_9_code 1 (some .boolean) :: ws) ({ frames := 0, cells := 0, slots := 0, locals := 0 } : Room)) (fun a U => a = #[(.ref a1)] ∧ Z.Warmed39 U.vm ∧ U.heap = h0) (fun _ _ _ _ _ => True) (fun _ U o U' => ∃ v L, o = .returned v ∧ own_Qise Z a1 el n mc h0 n0 v U'.heap L ∧ FrameEnd U o U' L ({ frames := 0, cells := 0, slots := 0, locals := 0 } : Room).cells ({ frames := 0, cells := 0, slots := 0, locals := 0 } : Room).slots) := by
  refine own_met (Q := own_Qise Z a1 el n mc h0 n0) (plainFor_of_name own_pn4) ?_
  intro p e s m below meth c s₁ K hx hby hml hown hnm hret hZ X0 e0 hK
  have hown : s.vm.findClass "java/util/ArrayList" = some m.cls := hown
  have N0 := Fr.nil n0
  refine own_by (fun t k => castTop (own_efise m a1) k) ?_
  show own_Go p.tables e below K (s₁.setTop (mkF m 0 #[.val (.ref a1)] []))
  refine own_by (fun t k => XS.aloadN X0.here hx rfl (hb hby own_d15_0) rfl rfl k) ?_
  show own_Go p.tables e below K (s₁.setTop (mkF m 1 #[.val (.ref a1)] [(.ref a1)]))
  obtain ⟨T44, X44, e44, st44⟩ := getF X0 hx hZ hown (host := "") (Or.inl (hw _ (List.mem_of_getElem? (i := 53) rfl))) Via.refl e0 B0.2.2.2 (g := (mkF m 1 #[.val (.ref a1)] [(.ref a1)])) rfl rfl (hb hby own_d15_1)
  refine own_by st44 ?_
  show own_Go p.tables e below K (T44.setTop (mkF m 4 #[.val (.ref a1)] [(.int n)]))
  by_cases hc4 : n = (0 : Int32)
  · refine own_by (fun t k => XS.ifNo X44.here hx rfl (hb hby own_d15_4) rfl ((if0 _ _).trans (teq hc4).2) k) ?_
    show own_Go p.tables e below K (T44.setTop (mkF m 7 #[.val (.ref a1)] []))
    refine own_by (fun t k => XS.iconst X44.here hx rfl (hb hby own_d15_7) k) ?_
    show own_Go p.tables e below K (T44.setTop (mkF m 8 #[.val (.ref a1)] [(.int (1 : Int32))]))
    refine own_by (fun t k => XS.goto X44.here hx rfl (pc0 := 8) (pc' := 12) rfl (hb hby own_d15_8) (by decide) (by decide) k) ?_
    show own_Go p.tables e below K (T44.setTop (mkF m 12 #[.val (.ref a1)] [(.int (1 : Int32))]))
    exact own_retZ X44 hx (t := .boolean) hret (by simp) (hb hby own_d15_12) (hK (some (.int (nar .boolean (1 : Int32)))) X44 (fun h => by rw [hret] at h; cases h) (⟨by simp [own_zI, *]; rfl, N0, e44⟩) (by decide) (by decide))
  · refine own_by (fun t k => XS.ifYes X44.here hx rfl (pc0 := 4) (pc' := 11) rfl (hb hby own_d15_4) rfl ((if0 _ _).trans (feq hc4).2) (by decide) (by decide) k) ?_
    show own_Go p.tables e below K (T44.setTop (mkF m 11 #[.val (.ref a1)] []))
    refine own_by (fun t k => XS.iconst X44.here hx rfl (hb hby own_d15_11) k) ?_
    show own_Go p.tables e below K (T44.setTop (mkF m 12 #[.val (.ref a1)] [(.int (0 : Int32))]))
    exact own_retZ X44 hx (t := .boolean) hret (by simp) (hb hby own_d15_12) (hK (some (.int (nar .boolean (0 : Int32)))) X44 (fun h => by rw [hret] at h; cases h) (⟨by simp [own_zI, *]; rfl, N0, e44⟩) (by decide) (by decide))
theorem own_pn16 : plainName "java/util/List" = true := by first | (simp [plainName, overriddenIn]; done) | decide +kernel
theorem own_d16_0 : decode jdk_40_method_36_code 0 = .ok (.getstatic 90, 3) := by decide +kernel
theorem own_d16_3 : decode jdk_40_method_36_code 3 = .ok (.areturn, 1) := by decide +kernel
theorem own_efof0 (m : MethodId)  : entryFrame m #[] 0 = mkF m 0 #[] [] := by first | (simp [entryFrame, mkF, argsToLocals, Value.category]; done) | rfl
def own_Qof0 (Z : State) (dd : Addr) (lz : Addr) (ez : Addr) (em : Addr) (mr : Addr) (h0 : Heap) (n0 : Nat) (v : Option Value) (h : Heap) (L : List Loc) : Prop := v = some (.ref lz) ∧ Fr n0 L ∧ h = h0
set_option maxRecDepth 65536 in
set_option maxHeartbeats 40000000 in
theorem own_rmof0 (l : Launch) (Z : State) (aw : Array Value) (hw : ∀ d ∈ tables_1, d.before aw Z = true) (ws : List Jvm.Cond) (dd : Addr) (lz : Addr) (ez : Addr) (em : Addr) (mr : Addr) (h0 : Heap) (n0 : Nat) (Z0 : n0 ≤ h0.size) (O0 : Old Z n0 h0) (S0 : own_St Z dd lz ez em mr) :
    MetFree l (⟨"java/util/List", "of", "()Ljava/util/List;"⟩ : MethodName) (head1 (Jvm.Cond.code (⟨"java/util/List", "of", "()Ljava/util/List;"⟩ : MethodName) jdk_40_method_36_code 0 (some (.object "java/util/List")) :: ws) ({ frames := 0, cells := 0, slots := 0, locals := 0 } : Room)) (fun a U => a = #[] ∧ Z.Warmed39 U.vm ∧ U.heap = h0) (fun _ _ _ _ _ => True) (fun _ U o U' => ∃ v L, o = .returned v ∧ own_Qof0 Z dd lz ez em mr h0 n0 v U'.heap L ∧ FrameEnd U o U' L ({ frames := 0, cells := 0, slots := 0, locals := 0 } : Room).cells ({ frames := 0, cells := 0, slots := 0, locals := 0 } : Room).slots) := by
  refine own_met (Q := own_Qof0 Z dd lz ez em mr h0 n0) (plainFor_of_name own_pn16) ?_
  intro p e s m below meth c s₁ K hx hby hml hown hnm hret hZ X0 e0 hK
  have hown : s.vm.findClass "java/util/List" = some m.cls := hown
  have N0 := Fr.nil n0
  refine own_by (fun t k => castTop (own_efof0 m ) k) ?_
  show own_Go p.tables e below K (s₁.setTop (mkF m 0 #[] []))
  obtain ⟨T45, X45, e45, st45⟩ := getS2 X0 hx hZ hown (host := "") (Or.inl (hw _ (List.mem_of_getElem? (i := 118) rfl))) Via.refl e0 (S0.2.2.1.ext O0.2) (g := (mkF m 0 #[] [])) rfl (hb hby own_d16_0)
  refine own_by st45 ?_
  show own_Go p.tables e below K (T45.setTop (mkF m 3 #[] [(.ref lz)]))
  exact own_retA X45 hx hret rfl rfl rfl (hb hby own_d16_3) (hK (some (.ref lz)) X45 (fun h => by rw [hret] at h; cases h) (⟨rfl, N0, e45⟩) (by decide) (by decide))
theorem own_pn23 : plainName "java/util/Objects" = true := by first | (simp [plainName, overriddenIn]; done) | decide +kernel
theorem own_d23_0 : decode jdk_31_method_10_code 0 = .ok (.aload_n 0, 1) := by decide +kernel
theorem own_d23_1 : decode jdk_31_method_10_code 1 = .ok (.ifnonnull 11, 3) := by decide +kernel
theorem own_d23_12 : decode jdk_31_method_10_code 12 = .ok (.aload_n 0, 1) := by decide +kernel
theorem own_d23_13 : decode jdk_31_method_10_code 13 = .ok (.areturn, 1) := by decide +kernel
theorem own_efrnn (m : MethodId) (r1 : Addr) : entryFrame m #[(.ref r1)] 1 = mkF m 0 #[.val (.ref r1)] [] := by first | (simp [entryFrame, mkF, argsToLocals, Value.category]; done) | rfl
def own_Qrnn (Z : State) (r1 : Addr) (h0 : Heap) (n0 : Nat) (v : Option Value) (h : Heap) (L : List Loc) : Prop := v = some (.ref r1) ∧ Fr n0 L ∧ h = h0
set_option maxRecDepth 65536 in
set_option maxHeartbeats 40000000 in
theorem own_rmrnn (l : Launch) (Z : State) (aw : Array Value) (hw : ∀ d ∈ tables_1, d.before aw Z = true) (ws : List Jvm.Cond) (r1 : Addr) (h0 : Heap) (n0 : Nat) (Z0 : n0 ≤ h0.size)  :
    MetFree l (⟨"java/util/Objects", "requireNonNull", "(Ljava/lang/Object;)Ljava/lang/Object;"⟩ : MethodName) (head1 (Jvm.Cond.code (⟨"java/util/Objects", "requireNonNull", "(Ljava/lang/Object;)Ljava/lang/Object;"⟩ : MethodName) jdk_31_method_10_code 1 (some (.object "java/lang/Object")) :: ws) ({ frames := 0, cells := 0, slots := 0, locals := 0 } : Room)) (fun a U => a = #[(.ref r1)] ∧ Z.Warmed39 U.vm ∧ U.heap = h0) (fun _ _ _ _ _ => True) (fun _ U o U' => ∃ v L, o = .returned v ∧ own_Qrnn Z r1 h0 n0 v U'.heap L ∧ FrameEnd U o U' L ({ frames := 0, cells := 0, slots := 0, locals := 0 } : Room).cells ({ frames := 0, cells := 0, slots := 0, locals := 0 } : Room).slots) := by
  refine own_met (Q := own_Qrnn Z r1 h0 n0) (plainFor_of_name own_pn23) ?_
  intro p e s m below meth c s₁ K hx hby hml hown hnm hret hZ X0 e0 hK
  have hown : s.vm.findClass "java/util/Objects" = some m.cls := hown
  have N0 := Fr.nil n0
  refine own_by (fun t k => castTop (own_efrnn m r1) k) ?_
  show own_Go p.tables e below K (s₁.setTop (mkF m 0 #[.val (.ref r1)] []))
  refine own_by (fun t k => XS.aloadN X0.here hx rfl (hb hby own_d23_0) rfl rfl k) ?_
  show own_Go p.tables e below K (s₁.setTop (mkF m 1 #[.val (.ref r1)] [(.ref r1)]))
  refine own_by (fun t k => XS.ifnonnullYes X0.here hx rfl (pc0 := 1) (pc' := 12) rfl (hb hby own_d23_1) rfl (by decide) (by decide) k) ?_
  show own_Go p.tables e below K (s₁.setTop (mkF m 12 #[.val (.ref r1)] []))
  refine own_by (fun t k => XS.aloadN X0.here hx rfl (hb hby own_d23_12) rfl rfl k) ?_
  show own_Go p.tables e below K (s₁.setTop (mkF m 13 #[.val (.ref r1)] [(.ref r1)]))
  exact own_retA X0 hx hret rfl rfl rfl (hb hby own_d23_13) (hK (some (.ref r1)) X0 (fun h => by rw [hret] at h; cases h) (⟨rfl, N0, e0⟩) (by decide) (by decide))
theorem own_pd5 : parseMethodDescriptor "(Ljava/lang/Object;)Ljava/lang/Object;" = some ⟨[(.object "java/lang/Object")], some (.object "java/lang/Object")⟩ := by decide +kernel
theorem own_pn35 : plainName "java/util/ImmutableCollections$List12" = true := by first | (simp [plainName, overriddenIn]; done) | decide +kernel
theorem own_d35_0 : decode jdk_44_method_1_code 0 = .ok (.aload_n 0, 1) := by decide +kernel
theorem own_d35_1 : decode jdk_44_method_1_code 1 = .ok (.invokespecial 1, 3) := by decide +kernel
theorem own_d35_4 : decode jdk_44_method_1_code 4 = .ok (.aload_n 0, 1) := by decide +kernel
theorem own_d35_5 : decode jdk_44_method_1_code 5 = .ok (.aload_n 1, 1) := by decide +kernel
theorem own_d35_6 : decode jdk_44_method_1_code 6 = .ok (.invokestatic 7, 3) := by decide +kernel
theorem own_d35_9 : decode jdk_44_method_1_code 9 = .ok (.putfield 13, 3) := by decide +kernel
theorem own_d35_12 : decode jdk_44_method_1_code 12 = .ok (.aload_n 0, 1) := by decide +kernel
theorem own_d35_13 : decode jdk_44_method_1_code 13 = .ok (.getstatic 19, 3) := by decide +kernel
theorem own_d35_16 : decode jdk_44_method_1_code 16 = .ok (.putfield 24, 3) := by decide +kernel
theorem own_d35_19 : decode jdk_44_method_1_code 19 = .ok (.return_, 1) := by decide +kernel
theorem own_efl1i (m : MethodId) (a1 : Addr) (r1 : Addr) : entryFrame m #[(.ref a1), (.ref r1)] 2 = mkF m 0 #[.val (.ref a1), .val (.ref r1)] [] := by first | (simp [entryFrame, mkF, argsToLocals, Value.category]; done) | rfl
def own_Ql1i (Z : State) (a1 : Addr) (r1 : Addr) (dd : Addr) (lz : Addr) (ez : Addr) (em : Addr) (mr : Addr) (h0 : Heap) (n0 : Nat) (v : Option Value) (h : Heap) (L : List Loc) : Prop := v = none ∧ Fr n0 L ∧ Keep h0 h [a1] ∧ Exa Z h a1 "java/util/ImmutableCollections$List12" ∧ Fld Z h a1 "java/util/ImmutableCollections$List12" "e1" "Ljava/lang/Object;" (.ref em)
set_option maxRecDepth 65536 in
set_option maxHeartbeats 40000000 in
theorem own_rml1i (l : Launch) (Z : State) (aw : Array Value) (hw : ∀ d ∈ tables_1, d.before aw Z = true) (ws : List Jvm.Cond) (a1 : Addr) (r1 : Addr) (dd : Addr) (lz : Addr) (ez : Addr) (em : Addr) (mr : Addr) (h0 : Heap) (n0 : Nat) (Z0 : n0 ≤ h0.size) (E0 : Exa Z h0 a1 "java/util/ImmutableCollections$List12") (ga : n0 ≤ a1) (F0_e0 : Fld Z h0 a1 "java/util/ImmutableCollections$List12" "e0" "Ljava/lang/Object;" .null) (F0_e1 : Fld Z h0 a1 "java/util/ImmutableCollections$List12" "e1" "Ljava/lang/Object;" .null) (O0 : Old Z n0 h0) (S0 : own_St Z dd lz ez em mr) :
    MetFree l (⟨"java/util/ImmutableCollections$List12", "<init>", "(Ljava/lang/Object;)V"⟩ : MethodName) (head1 (Jvm.Cond.code (⟨"java/util/ImmutableCollections$List12", "<init>", "(Ljava/lang/Object;)V"⟩ : MethodName) jdk_44_method_1_code 2 none :: ws) ({ frames := 4, cells := 0, slots := 0, locals := 50 } : Room)) (fun a U => a = #[(.ref a1), (.ref r1)] ∧ Z.Warmed39 U.vm ∧ U.heap = h0) (fun _ _ _ _ _ => True) (fun _ U o U' => ∃ v L, o = .returned v ∧ own_Ql1i Z a1 r1 dd lz ez em mr h0 n0 v U'.heap L ∧ FrameEnd U o U' L ({ frames := 4, cells := 0, slots := 0, locals := 50 } : Room).cells ({ frames := 4, cells := 0, slots := 0, locals := 50 } : Room).slots) := by
  refine own_met (Q := own_Ql1i Z a1 r1 dd lz ez em mr h0 n0) (plainFor_of_name own_pn35) ?_
  intro p e s m below meth c s₁ K hx hby hml hown hnm hret hZ X0 e0 hK
  have hown : s.vm.findClass "java/util/ImmutableCollections$List12" = some m.cls := hown
  have hnm : meth.name = "<init>" := hnm
  have N0 := Fr.nil n0
  refine own_by (fun t k => castTop (own_efl1i m a1 r1) k) ?_
  show own_Go p.tables e below K (s₁.setTop (mkF m 0 #[.val (.ref a1), .val (.ref r1)] []))
  refine own_by (fun t k => XS.aloadN X0.here hx rfl (hb hby own_d35_0) rfl rfl k) ?_
  show own_Go p.tables e below K (s₁.setTop (mkF m 1 #[.val (.ref a1), .val (.ref r1)] [(.ref a1)]))
  obtain ⟨_, _, ⟨T46, L46, k46, n46⟩, -, X46, ⟨Lc46, hQ46, l46, y46, z46⟩, st46⟩ := X0.specialBack hx (y := (⟨"java/util/ImmutableCollections$AbstractImmutableList", "<init>", "()V"⟩ : MethodName)) rfl hown (mvT hZ (hw _ (List.mem_of_getElem? (i := 258) rfl))) (mvT hZ (hw _ (List.mem_of_getElem? (i := 167) rfl))) (mvT hZ (hw _ (List.mem_of_getElem? (i := 171) rfl))) (by decide) (backOf (W := 0) (own_rmail l Z aw hw [] a1 h0 n0 Z0) hZ (hw _ (List.mem_of_getElem? (i := 171) rfl)) (hw _ (List.mem_of_getElem? (i := 170) rfl)) (by decide) (by decide)) (g := (mkF m 1 #[.val (.ref a1), .val (.ref r1)] [(.ref a1)])) rfl (by rw [hml]; rfl) (Steps.refl _) (a := a1) (argsL := []) (rest := []) (lenOf own_pd0 rfl) rfl (by show 2 * 0 + _ ≤ _; exact Nat.le_of_eq rfl) (hb hby own_d35_1) (fun _ _ => ⟨rfl, e0, (by decide : 0 + 0 ≤ _), (by decide : 0 + 0 ≤ _)⟩)
  dsimp only [Pt.U, Pt.locs, Pt.cells, Pt.slots] at X46 l46 y46 z46 st46 hQ46
  subst l46 y46 z46
  obtain ⟨rfl, N46q, e46⟩ := hQ46
  have N46 := Fr.app N0 N46q
  refine own_by (fun t k => st46.trans k) ?_
  show own_Go p.tables e below K (T46.setTop (mkF m 4 #[.val (.ref a1), .val (.ref r1)] []))
  refine own_by (fun t k => XS.aloadN X46.here hx rfl (hb hby own_d35_4) rfl rfl k) ?_
  show own_Go p.tables e below K (T46.setTop (mkF m 5 #[.val (.ref a1), .val (.ref r1)] [(.ref a1)]))
  refine own_by (fun t k => XS.aloadN X46.here hx rfl (hb hby own_d35_5) rfl rfl k) ?_
  show own_Go p.tables e below K (T46.setTop (mkF m 6 #[.val (.ref a1), .val (.ref r1)] [(.ref r1), (.ref a1)]))
  obtain ⟨_, _, ⟨T47, L47, k47, n47⟩, -, X47, ⟨Lc47, hQ47, l47, y47, z47⟩, st47⟩ := Jvm.LawKit.callS X46 hx (y := (⟨"java/util/Objects", "requireNonNull", "(Ljava/lang/Object;)Ljava/lang/Object;"⟩ : MethodName)) hown (mvT hZ (hw _ (List.mem_of_getElem? (i := 262) rfl))) (mvT hZ (hw _ (List.mem_of_getElem? (i := 157) rfl))) (mvT hZ (hw _ (List.mem_of_getElem? (i := 158) rfl))) (mvT hZ (hw _ (List.mem_of_getElem? (i := 159) rfl))) (by decide) (backOf (W := 1) (own_rmrnn l Z aw hw [] r1 h0 n0 Z0) hZ (hw _ (List.mem_of_getElem? (i := 159) rfl)) (hw _ (List.mem_of_getElem? (i := 158) rfl)) (by decide) (by decide)) (g := (mkF m 6 #[.val (.ref a1), .val (.ref r1)] [(.ref r1), (.ref a1)])) rfl (by rw [hml]; rfl) (argsL := [(.ref r1)]) (rest := [(.ref a1)]) (lenOf own_pd5 rfl) rfl (by show 2 * 0 + _ ≤ _; exact Nat.le_of_eq rfl) (hb hby own_d35_6) (fun _ _ => ⟨rfl, e46, (by decide : 0 + 0 ≤ _), (by decide : 0 + 0 ≤ _)⟩)
  dsimp only [Pt.U, Pt.locs, Pt.cells, Pt.slots] at X47 l47 y47 z47 st47 hQ47
  subst l47 y47 z47
  obtain ⟨rfl, N47q, e47⟩ := hQ47
  have N47 := Fr.app N46 N47q
  refine own_by st47 ?_
  show own_Go p.tables e below K (T47.setTop (mkF m 9 #[.val (.ref a1), .val (.ref r1)] [(.ref r1), (.ref a1)]))
  obtain ⟨T48, h48, X48, e48, W48, st48⟩ := putF X47 hx hZ hown (host := "") (Or.inl (hw _ (List.mem_of_getElem? (i := 263) rfl))) Via.refl e47 F0_e0 E0 (Or.inr ⟨(hw _ (List.mem_of_getElem? (i := 264) rfl)), rfl, hnm⟩) (hw _ (List.mem_of_getElem? (i := 252) rfl)) (ty := (.object "java/lang/Object")) (by decide) rfl rfl (g := (mkF m 9 #[.val (.ref a1), .val (.ref r1)] [(.ref r1), (.ref a1)])) rfl rfl (hb hby own_d35_9)
  refine own_by st48 ?_
  have F48_e0_a1 := F0_e0.same W48
  have F48_e1_a1 := F0_e1.other W48 (Or.inr (slot_ne (Or.inr (hw _ (List.mem_of_getElem? (i := 266) rfl))) (Or.inr (hw _ (List.mem_of_getElem? (i := 264) rfl))) (by decide) (t := (.object "java/lang/Object")) (t' := (.object "java/lang/Object")) (by decide) (by decide)))
  have Ex48_a1 := E0.wr W48
  have K48 := (Keep.refl h0 [a1]).wr W48 (Or.inl (by simp))
  have Z48 := Nat.le_trans Z0 (Keep.of_wr W48).1
  have O48 := O0.wr W48 ga
  have N48 := Fr.snoc X48 N47 ga
  show own_Go p.tables e below K (T48.setTop (mkF m 12 #[.val (.ref a1), .val (.ref r1)] []))
  refine own_by (fun t k => XS.aloadN X48.here hx rfl (hb hby own_d35_12) rfl rfl k) ?_
  show own_Go p.tables e below K (T48.setTop (mkF m 13 #[.val (.ref a1), .val (.ref r1)] [(.ref a1)]))
  obtain ⟨T49, X49, e49, st49⟩ := getS2 X48 hx hZ hown (Or.inr (hw _ (List.mem_of_getElem? (i := 273) rfl))) Via.refl e48 (S0.2.2.2.2.2.2.1.ext O48.2) (g := (mkF m 13 #[.val (.ref a1), .val (.ref r1)] [(.ref a1)])) rfl (hb hby own_d35_13)
  refine own_by st49 ?_
  show own_Go p.tables e below K (T49.setTop (mkF m 16 #[.val (.ref a1), .val (.ref r1)] [(.ref em), (.ref a1)]))
  obtain ⟨T50, h50, X50, e50, W50, st50⟩ := putF X49 hx hZ hown (host := "") (Or.inl (hw _ (List.mem_of_getElem? (i := 265) rfl))) Via.refl e49 F48_e1_a1 Ex48_a1 (Or.inr ⟨(hw _ (List.mem_of_getElem? (i := 266) rfl)), rfl, hnm⟩) (hw _ (List.mem_of_getElem? (i := 252) rfl)) (ty := (.object "java/lang/Object")) (by decide) rfl rfl (g := (mkF m 16 #[.val (.ref a1), .val (.ref r1)] [(.ref em), (.ref a1)])) rfl rfl (hb hby own_d35_16)
  refine own_by st50 ?_
  have F50_e0_a1 := F48_e0_a1.other W50 (Or.inr (slot_ne (Or.inr (hw _ (List.mem_of_getElem? (i := 264) rfl))) (Or.inr (hw _ (List.mem_of_getElem? (i := 266) rfl))) (by decide) (t := (.object "java/lang/Object")) (t' := (.object "java/lang/Object")) (by decide) (by decide)))
  have F50_e1_a1 := F48_e1_a1.same W50
  have Ex50_a1 := Ex48_a1.wr W50
  have K50 := K48.wr W50 (Or.inl (by simp))
  have Z50 := Nat.le_trans Z48 (Keep.of_wr W50).1
  have O50 := O48.wr W50 ga
  have N50 := Fr.snoc X50 N48 ga
  show own_Go p.tables e below K (T50.setTop (mkF m 19 #[.val (.ref a1), .val (.ref r1)] []))
  exact own_retV X50 hx hret (hb hby own_d35_19) (hK none X50 (fun _ => rfl) (by rw [e50]; exact ⟨rfl, N50, K50, Ex50_a1, F50_e1_a1⟩) (by decide) (by decide))
theorem own_d33_0 : decode jdk_44_method_2_code 0 = .ok (.aload_n 0, 1) := by decide +kernel
theorem own_d33_1 : decode jdk_44_method_2_code 1 = .ok (.invokespecial 1, 3) := by decide +kernel
theorem own_d33_4 : decode jdk_44_method_2_code 4 = .ok (.aload_n 0, 1) := by decide +kernel
theorem own_d33_5 : decode jdk_44_method_2_code 5 = .ok (.aload_n 1, 1) := by decide +kernel
theorem own_d33_6 : decode jdk_44_method_2_code 6 = .ok (.invokestatic 7, 3) := by decide +kernel
theorem own_d33_9 : decode jdk_44_method_2_code 9 = .ok (.putfield 13, 3) := by decide +kernel
theorem own_d33_12 : decode jdk_44_method_2_code 12 = .ok (.aload_n 0, 1) := by decide +kernel
theorem own_d33_13 : decode jdk_44_method_2_code 13 = .ok (.aload_n 2, 1) := by decide +kernel
theorem own_d33_14 : decode jdk_44_method_2_code 14 = .ok (.invokestatic 7, 3) := by decide +kernel
theorem own_d33_17 : decode jdk_44_method_2_code 17 = .ok (.putfield 24, 3) := by decide +kernel
theorem own_d33_20 : decode jdk_44_method_2_code 20 = .ok (.return_, 1) := by decide +kernel
theorem own_efl2i (m : MethodId) (a1 : Addr) (r1 : Addr) (r2 : Addr) : entryFrame m #[(.ref a1), (.ref r1), (.ref r2)] 3 = mkF m 0 #[.val (.ref a1), .val (.ref r1), .val (.ref r2)] [] := by first | (simp [entryFrame, mkF, argsToLocals, Value.category]; done) | rfl
def own_Ql2i (Z : State) (a1 : Addr) (r1 : Addr) (r2 : Addr) (h0 : Heap) (n0 : Nat) (v : Option Value) (h : Heap) (L : List Loc) : Prop := v = none ∧ Fr n0 L ∧ Keep h0 h [a1] ∧ Exa Z h a1 "java/util/ImmutableCollections$List12" ∧ Fld Z h a1 "java/util/ImmutableCollections$List12" "e1" "Ljava/lang/Object;" (.ref r2)
set_option maxRecDepth 65536 in
set_option maxHeartbeats 40000000 in
theorem own_rml2i (l : Launch) (Z : State) (aw : Array Value) (hw : ∀ d ∈ tables_1, d.before aw Z = true) (ws : List Jvm.Cond) (a1 : Addr) (r1 : Addr) (r2 : Addr) (h0 : Heap) (n0 : Nat) (Z0 : n0 ≤ h0.size) (E0 : Exa Z h0 a1 "java/util/ImmutableCollections$List12") (ga : n0 ≤ a1) (F0_e0 : Fld Z h0 a1 "java/util/ImmutableCollections$List12" "e0" "Ljava/lang/Object;" .null) (F0_e1 : Fld Z h0 a1 "java/util/ImmutableCollections$List12" "e1" "Ljava/lang/Object;" .null)  :
    MetFree l (⟨"java/util/ImmutableCollections$List12", "<init>", "(Ljava/lang/Object;Ljava/lang/Object;)V"⟩ : MethodName) (head1 (Jvm.Cond.code (⟨"java/util/ImmutableCollections$List12", "<init>", "(Ljava/lang/Object;Ljava/lang/Object;)V"⟩ : MethodName) jdk_44_method_2_code 3 none :: ws) ({ frames := 4, cells := 0, slots := 0, locals := 50 } : Room)) (fun a U => a = #[(.ref a1), (.ref r1), (.ref r2)] ∧ Z.Warmed39 U.vm ∧ U.heap = h0) (fun _ _ _ _ _ => True) (fun _ U o U' => ∃ v L, o = .returned v ∧ own_Ql2i Z a1 r1 r2 h0 n0 v U'.heap L ∧ FrameEnd U o U' L ({ frames := 4, cells := 0, slots := 0, locals := 50 } : Room).cells ({ frames := 4, cells := 0, slots := 0, locals := 50 } : Room).slots) := by
  refine own_met (Q := own_Ql2i Z a1 r1 r2 h0 n0) (plainFor_of_name own_pn35) ?_
  intro p e s m below meth c s₁ K hx hby hml hown hnm hret hZ X0 e0 hK
  have hown : s.vm.findClass "java/util/ImmutableCollections$List12" = some m.cls := hown
  have hnm : meth.name = "<init>" := hnm
  have N0 := Fr.nil n0
  refine own_by (fun t k => castTop (own_efl2i m a1 r1 r2) k) ?_
  show own_Go p.tables e below K (s₁.setTop (mkF m 0 #[.val (.ref a1), .val (.ref r1), .val (.ref r2)] []))
  refine own_by (fun t k => XS.aloadN X0.here hx rfl (hb hby own_d33_0) rfl rfl k) ?_
  show own_Go p.tables e below K (s₁.setTop (mkF m 1 #[.val (.ref a1), .val (.ref r1), .val (.ref r2)] [(.ref a1)]))
  obtain ⟨_, _, ⟨T51, L51, k51, n51⟩, -, X51, ⟨Lc51, hQ51, l51, y51, z51⟩, st51⟩ := X0.specialBack hx (y := (⟨"java/util/ImmutableCollections$AbstractImmutableList", "<init>", "()V"⟩ : MethodName)) rfl hown (mvT hZ (hw _ (List.mem_of_getElem? (i := 258) rfl))) (mvT hZ (hw _ (List.mem_of_getElem? (i := 167) rfl))) (mvT hZ (hw _ (List.mem_of_getElem? (i := 171) rfl))) (by decide) (backOf (W := 0) (own_rmail l Z aw hw [] a1 h0 n0 Z0) hZ (hw _ (List.mem_of_getElem? (i := 171) rfl)) (hw _ (List.mem_of_getElem? (i := 170) rfl)) (by decide) (by decide)) (g := (mkF m 1 #[.val (.ref a1), .val (.ref r1), .val (.ref r2)] [(.ref a1)])) rfl (by rw [hml]; rfl) (Steps.refl _) (a := a1) (argsL := []) (rest := []) (lenOf own_pd0 rfl) rfl (by show 2 * 0 + _ ≤ _; exact Nat.le_of_eq rfl) (hb hby own_d33_1) (fun _ _ => ⟨rfl, e0, (by decide : 0 + 0 ≤ _), (by decide : 0 + 0 ≤ _)⟩)
  dsimp only [Pt.U, Pt.locs, Pt.cells, Pt.slots] at X51 l51 y51 z51 st51 hQ51
  subst l51 y51 z51
  obtain ⟨rfl, N51q, e51⟩ := hQ51
  have N51 := Fr.app N0 N51q
  refine own_by (fun t k => st51.trans k) ?_
  show own_Go p.tables e below K (T51.setTop (mkF m 4 #[.val (.ref a1), .val (.ref r1), .val (.ref r2)] []))
  refine own_by (fun t k => XS.aloadN X51.here hx rfl (hb hby own_d33_4) rfl rfl k) ?_
  show own_Go p.tables e below K (T51.setTop (mkF m 5 #[.val (.ref a1), .val (.ref r1), .val (.ref r2)] [(.ref a1)]))
  refine own_by (fun t k => XS.aloadN X51.here hx rfl (hb hby own_d33_5) rfl rfl k) ?_
  show own_Go p.tables e below K (T51.setTop (mkF m 6 #[.val (.ref a1), .val (.ref r1), .val (.ref r2)] [(.ref r1), (.ref a1)]))
  obtain ⟨_, _, ⟨T52, L52, k52, n52⟩, -, X52, ⟨Lc52, hQ52, l52, y52, z52⟩, st52⟩ := Jvm.LawKit.callS X51 hx (y := (⟨"java/util/Objects", "requireNonNull", "(Ljava/lang/Object;)Ljava/lang/Object;"⟩ : MethodName)) hown (mvT hZ (hw _ (List.mem_of_getElem? (i := 262) rfl))) (mvT hZ (hw _ (List.mem_of_getElem? (i := 157) rfl))) (mvT hZ (hw _ (List.mem_of_getElem? (i := 158) rfl))) (mvT hZ (hw _ (List.mem_of_getElem? (i := 159) rfl))) (by decide) (backOf (W := 1) (own_rmrnn l Z aw hw [] r1 h0 n0 Z0) hZ (hw _ (List.mem_of_getElem? (i := 159) rfl)) (hw _ (List.mem_of_getElem? (i := 158) rfl)) (by decide) (by decide)) (g := (mkF m 6 #[.val (.ref a1), .val (.ref r1), .val (.ref r2)] [(.ref r1), (.ref a1)])) rfl (by rw [hml]; rfl) (argsL := [(.ref r1)]) (rest := [(.ref a1)]) (lenOf own_pd5 rfl) rfl (by show 2 * 0 + _ ≤ _; exact Nat.le_of_eq rfl) (hb hby own_d33_6) (fun _ _ => ⟨rfl, e51, (by decide : 0 + 0 ≤ _), (by decide : 0 + 0 ≤ _)⟩)
  dsimp only [Pt.U, Pt.locs, Pt.cells, Pt.slots] at X52 l52 y52 z52 st52 hQ52
  subst l52 y52 z52
  obtain ⟨rfl, N52q, e52⟩ := hQ52
  have N52 := Fr.app N51 N52q
  refine own_by st52 ?_
  show own_Go p.tables e below K (T52.setTop (mkF m 9 #[.val (.ref a1), .val (.ref r1), .val (.ref r2)] [(.ref r1), (.ref a1)]))
  obtain ⟨T53, h53, X53, e53, W53, st53⟩ := putF X52 hx hZ hown (host := "") (Or.inl (hw _ (List.mem_of_getElem? (i := 263) rfl))) Via.refl e52 F0_e0 E0 (Or.inr ⟨(hw _ (List.mem_of_getElem? (i := 264) rfl)), rfl, hnm⟩) (hw _ (List.mem_of_getElem? (i := 252) rfl)) (ty := (.object "java/lang/Object")) (by decide) rfl rfl (g := (mkF m 9 #[.val (.ref a1), .val (.ref r1), .val (.ref r2)] [(.ref r1), (.ref a1)])) rfl rfl (hb hby own_d33_9)
  refine own_by st53 ?_
  have F53_e0_a1 := F0_e0.same W53
  have F53_e1_a1 := F0_e1.other W53 (Or.inr (slot_ne (Or.inr (hw _ (List.mem_of_getElem? (i := 266) rfl))) (Or.inr (hw _ (List.mem_of_getElem? (i := 264) rfl))) (by decide) (t := (.object "java/lang/Object")) (t' := (.object "java/lang/Object")) (by decide) (by decide)))
  have Ex53_a1 := E0.wr W53
  have K53 := (Keep.refl h0 [a1]).wr W53 (Or.inl (by simp))
  have Z53 := Nat.le_trans Z0 (Keep.of_wr W53).1
  have N53 := Fr.snoc X53 N52 ga
  show own_Go p.tables e below K (T53.setTop (mkF m 12 #[.val (.ref a1), .val (.ref r1), .val (.ref r2)] []))
  refine own_by (fun t k => XS.aloadN X53.here hx rfl (hb hby own_d33_12) rfl rfl k) ?_
  show own_Go p.tables e below K (T53.setTop (mkF m 13 #[.val (.ref a1), .val (.ref r1), .val (.ref r2)] [(.ref a1)]))
  refine own_by (fun t k => XS.aloadN X53.here hx rfl (hb hby own_d33_13) rfl rfl k) ?_
  show own_Go p.tables e below K (T53.setTop (mkF m 14 #[.val (.ref a1), .val (.ref r1), .val (.ref r2)] [(.ref r2), (.ref a1)]))
  obtain ⟨_, _, ⟨T54, L54, k54, n54⟩, -, X54, ⟨Lc54, hQ54, l54, y54, z54⟩, st54⟩ := Jvm.LawKit.callS X53 hx (y := (⟨"java/util/Objects", "requireNonNull", "(Ljava/lang/Object;)Ljava/lang/Object;"⟩ : MethodName)) hown (mvT hZ (hw _ (List.mem_of_getElem? (i := 262) rfl))) (mvT hZ (hw _ (List.mem_of_getElem? (i := 157) rfl))) (mvT hZ (hw _ (List.mem_of_getElem? (i := 158) rfl))) (mvT hZ (hw _ (List.mem_of_getElem? (i := 159) rfl))) (by decide) (backOf (W := 1) (own_rmrnn l Z aw hw [] r2 h53 n0 Z53) hZ (hw _ (List.mem_of_getElem? (i := 159) rfl)) (hw _ (List.mem_of_getElem? (i := 158) rfl)) (by decide) (by decide)) (g := (mkF m 14 #[.val (.ref a1), .val (.ref r1), .val (.ref r2)] [(.ref r2), (.ref a1)])) rfl (by rw [hml]; rfl) (argsL := [(.ref r2)]) (rest := [(.ref a1)]) (lenOf own_pd5 rfl) rfl (by show 2 * 0 + _ ≤ _; exact Nat.le_of_eq rfl) (hb hby own_d33_14) (fun _ _ => ⟨rfl, e53, (by decide : 0 + 0 ≤ _), (by decide : 0 + 0 ≤ _)⟩)
  dsimp only [Pt.U, Pt.locs, Pt.cells, Pt.slots] at X54 l54 y54 z54 st54 hQ54
  subst l54 y54 z54
  obtain ⟨rfl, N54q, e54⟩ := hQ54
  have N54 := Fr.app N53 N54q
  refine own_by st54 ?_
  show own_Go p.tables e below K (T54.setTop (mkF m 17 #[.val (.ref a1), .val (.ref r1), .val (.ref r2)] [(.ref r2), (.ref a1)]))
  obtain ⟨T55, h55, X55, e55, W55, st55⟩ := putF X54 hx hZ hown (host := "") (Or.inl (hw _ (List.mem_of_getElem? (i := 265) rfl))) Via.refl e54 F53_e1_a1 Ex53_a1 (Or.inr ⟨(hw _ (List.mem_of_getElem? (i := 266) rfl)), rfl, hnm⟩) (hw _ (List.mem_of_getElem? (i := 252) rfl)) (ty := (.object "java/lang/Object")) (by decide) rfl rfl (g := (mkF m 17 #[.val (.ref a1), .val (.ref r1), .val (.ref r2)] [(.ref r2), (.ref a1)])) rfl rfl (hb hby own_d33_17)
  refine own_by st55 ?_
  have F55_e0_a1 := F53_e0_a1.other W55 (Or.inr (slot_ne (Or.inr (hw _ (List.mem_of_getElem? (i := 264) rfl))) (Or.inr (hw _ (List.mem_of_getElem? (i := 266) rfl))) (by decide) (t := (.object "java/lang/Object")) (t' := (.object "java/lang/Object")) (by decide) (by decide)))
  have F55_e1_a1 := F53_e1_a1.same W55
  have Ex55_a1 := Ex53_a1.wr W55
  have K55 := K53.wr W55 (Or.inl (by simp))
  have Z55 := Nat.le_trans Z53 (Keep.of_wr W55).1
  have N55 := Fr.snoc X55 N54 ga
  show own_Go p.tables e below K (T55.setTop (mkF m 20 #[.val (.ref a1), .val (.ref r1), .val (.ref r2)] []))
  exact own_retV X55 hx hret (hb hby own_d33_20) (hK none X55 (fun _ => rfl) (by rw [e55]; exact ⟨rfl, N55, K55, Ex55_a1, F55_e1_a1⟩) (by decide) (by decide))
theorem own_pn24 : plainName "java/util/ImmutableCollections$ListN" = true := by first | (simp [plainName, overriddenIn]; done) | decide +kernel
theorem own_d24_0 : decode jdk_45_method_1_code 0 = .ok (.aload_n 0, 1) := by decide +kernel
theorem own_d24_1 : decode jdk_45_method_1_code 1 = .ok (.invokespecial 1, 3) := by decide +kernel
theorem own_d24_4 : decode jdk_45_method_1_code 4 = .ok (.aload_n 0, 1) := by decide +kernel
theorem own_d24_5 : decode jdk_45_method_1_code 5 = .ok (.aload_n 1, 1) := by decide +kernel
theorem own_d24_6 : decode jdk_45_method_1_code 6 = .ok (.putfield 7, 3) := by decide +kernel
theorem own_d24_9 : decode jdk_45_method_1_code 9 = .ok (.aload_n 0, 1) := by decide +kernel
theorem own_d24_10 : decode jdk_45_method_1_code 10 = .ok (.iload_n 2, 1) := by decide +kernel
theorem own_d24_11 : decode jdk_45_method_1_code 11 = .ok (.putfield 13, 3) := by decide +kernel
theorem own_d24_14 : decode jdk_45_method_1_code 14 = .ok (.return_, 1) := by decide +kernel
theorem own_eflni (m : MethodId) (a1 : Addr) (r1 : Addr) : entryFrame m #[(.ref a1), (.ref r1), (.int (0 : Int32))] 3 = mkF m 0 #[.val (.ref a1), .val (.ref r1), .val (.int (0 : Int32))] [] := by first | (simp [entryFrame, mkF, argsToLocals, Value.category]; done) | rfl
def own_Qlni (Z : State) (a1 : Addr) (r1 : Addr) (h0 : Heap) (n0 : Nat) (v : Option Value) (h : Heap) (L : List Loc) : Prop := v = none ∧ Fr n0 L ∧ Keep h0 h [a1] ∧ Exa Z h a1 "java/util/ImmutableCollections$ListN" ∧ Fld Z h a1 "java/util/ImmutableCollections$ListN" "elements" "[Ljava/lang/Object;" (.ref r1)
set_option maxRecDepth 65536 in
set_option maxHeartbeats 40000000 in
theorem own_rmlni (l : Launch) (Z : State) (aw : Array Value) (hw : ∀ d ∈ tables_1, d.before aw Z = true) (ws : List Jvm.Cond) (a1 : Addr) (r1 : Addr) (h0 : Heap) (n0 : Nat) (Z0 : n0 ≤ h0.size) (E0 : Exa Z h0 a1 "java/util/ImmutableCollections$ListN") (ga : n0 ≤ a1) (F0_elements : Fld Z h0 a1 "java/util/ImmutableCollections$ListN" "elements" "[Ljava/lang/Object;" .null) (F0_allowNulls : Fld Z h0 a1 "java/util/ImmutableCollections$ListN" "allowNulls" "Z" (.int (0 : Int32)))  :
    MetFree l (⟨"java/util/ImmutableCollections$ListN", "<init>", "([Ljava/lang/Object;Z)V"⟩ : MethodName) (head1 (Jvm.Cond.code (⟨"java/util/ImmutableCollections$ListN", "<init>", "([Ljava/lang/Object;Z)V"⟩ : MethodName) jdk_45_method_1_code 3 none :: ws) ({ frames := 4, cells := 0, slots := 0, locals := 50 } : Room)) (fun a U => a = #[(.ref a1), (.ref r1), (.int (0 : Int32))] ∧ Z.Warmed39 U.vm ∧ U.heap = h0) (fun _ _ _ _ _ => True) (fun _ U o U' => ∃ v L, o = .returned v ∧ own_Qlni Z a1 r1 h0 n0 v U'.heap L ∧ FrameEnd U o U' L ({ frames := 4, cells := 0, slots := 0, locals := 50 } : Room).cells ({ frames := 4, cells := 0, slots := 0, locals := 50 } : Room).slots) := by
  refine own_met (Q := own_Qlni Z a1 r1 h0 n0) (plainFor_of_name own_pn24) ?_
  intro p e s m below meth c s₁ K hx hby hml hown hnm hret hZ X0 e0 hK
  have hown : s.vm.findClass "java/util/ImmutableCollections$ListN" = some m.cls := hown
  have hnm : meth.name = "<init>" := hnm
  have N0 := Fr.nil n0
  refine own_by (fun t k => castTop (own_eflni m a1 r1) k) ?_
  show own_Go p.tables e below K (s₁.setTop (mkF m 0 #[.val (.ref a1), .val (.ref r1), .val (.int (0 : Int32))] []))
  refine own_by (fun t k => XS.aloadN X0.here hx rfl (hb hby own_d24_0) rfl rfl k) ?_
  show own_Go p.tables e below K (s₁.setTop (mkF m 1 #[.val (.ref a1), .val (.ref r1), .val (.int (0 : Int32))] [(.ref a1)]))
  obtain ⟨_, _, ⟨T56, L56, k56, n56⟩, -, X56, ⟨Lc56, hQ56, l56, y56, z56⟩, st56⟩ := X0.specialBack hx (y := (⟨"java/util/ImmutableCollections$AbstractImmutableList", "<init>", "()V"⟩ : MethodName)) rfl hown (mvT hZ (hw _ (List.mem_of_getElem? (i := 166) rfl))) (mvT hZ (hw _ (List.mem_of_getElem? (i := 167) rfl))) (mvT hZ (hw _ (List.mem_of_getElem? (i := 171) rfl))) (by decide) (backOf (W := 0) (own_rmail l Z aw hw [] a1 h0 n0 Z0) hZ (hw _ (List.mem_of_getElem? (i := 171) rfl)) (hw _ (List.mem_of_getElem? (i := 170) rfl)) (by decide) (by decide)) (g := (mkF m 1 #[.val (.ref a1), .val (.ref r1), .val (.int (0 : Int32))] [(.ref a1)])) rfl (by rw [hml]; rfl) (Steps.refl _) (a := a1) (argsL := []) (rest := []) (lenOf own_pd0 rfl) rfl (by show 2 * 0 + _ ≤ _; exact Nat.le_of_eq rfl) (hb hby own_d24_1) (fun _ _ => ⟨rfl, e0, (by decide : 0 + 0 ≤ _), (by decide : 0 + 0 ≤ _)⟩)
  dsimp only [Pt.U, Pt.locs, Pt.cells, Pt.slots] at X56 l56 y56 z56 st56 hQ56
  subst l56 y56 z56
  obtain ⟨rfl, N56q, e56⟩ := hQ56
  have N56 := Fr.app N0 N56q
  refine own_by (fun t k => st56.trans k) ?_
  show own_Go p.tables e below K (T56.setTop (mkF m 4 #[.val (.ref a1), .val (.ref r1), .val (.int (0 : Int32))] []))
  refine own_by (fun t k => XS.aloadN X56.here hx rfl (hb hby own_d24_4) rfl rfl k) ?_
  show own_Go p.tables e below K (T56.setTop (mkF m 5 #[.val (.ref a1), .val (.ref r1), .val (.int (0 : Int32))] [(.ref a1)]))
  refine own_by (fun t k => XS.aloadN X56.here hx rfl (hb hby own_d24_5) rfl rfl k) ?_
  show own_Go p.tables e below K (T56.setTop (mkF m 6 #[.val (.ref a1), .val (.ref r1), .val (.int (0 : Int32))] [(.ref r1), (.ref a1)]))
  obtain ⟨T57, h57, X57, e57, W57, st57⟩ := putF X56 hx hZ hown (host := "") (Or.inl (hw _ (List.mem_of_getElem? (i := 180) rfl))) Via.refl e56 F0_elements E0 (Or.inr ⟨(hw _ (List.mem_of_getElem? (i := 181) rfl)), rfl, hnm⟩) (hw _ (List.mem_of_getElem? (i := 160) rfl)) (ty := (.array (.object "java/lang/Object"))) (by decide) rfl rfl (g := (mkF m 6 #[.val (.ref a1), .val (.ref r1), .val (.int (0 : Int32))] [(.ref r1), (.ref a1)])) rfl rfl (hb hby own_d24_6)
  refine own_by st57 ?_
  have F57_elements_a1 := F0_elements.same W57
  have F57_allowNulls_a1 := F0_allowNulls.other W57 (Or.inr (slot_ne (Or.inr (hw _ (List.mem_of_getElem? (i := 183) rfl))) (Or.inr (hw _ (List.mem_of_getElem? (i := 181) rfl))) (by decide) (t := .boolean) (t' := (.array (.object "java/lang/Object"))) (by decide) (by decide)))
  have Ex57_a1 := E0.wr W57
  have K57 := (Keep.refl h0 [a1]).wr W57 (Or.inl (by simp))
  have Z57 := Nat.le_trans Z0 (Keep.of_wr W57).1
  have N57 := Fr.snoc X57 N56 ga
  show own_Go p.tables e below K (T57.setTop (mkF m 9 #[.val (.ref a1), .val (.ref r1), .val (.int (0 : Int32))] []))
  refine own_by (fun t k => XS.aloadN X57.here hx rfl (hb hby own_d24_9) rfl rfl k) ?_
  show own_Go p.tables e below K (T57.setTop (mkF m 10 #[.val (.ref a1), .val (.ref r1), .val (.int (0 : Int32))] [(.ref a1)]))
  refine own_by (fun t k => XS.iloadN X57.here hx rfl (hb hby own_d24_10) rfl k) ?_
  show own_Go p.tables e below K (T57.setTop (mkF m 11 #[.val (.ref a1), .val (.ref r1), .val (.int (0 : Int32))] [(.int (0 : Int32)), (.ref a1)]))
  obtain ⟨T58, h58, X58, e58, W58, st58⟩ := putFN X57 hx hZ hown (hw _ (List.mem_of_getElem? (i := 182) rfl)) Via.refl e57 F57_allowNulls_a1 Ex57_a1 (Or.inr ⟨(hw _ (List.mem_of_getElem? (i := 183) rfl)), rfl, hnm⟩) (hw _ (List.mem_of_getElem? (i := 160) rfl)) (ty := .boolean) (v' := (.int (nar .boolean (0 : Int32)))) (by decide) rfl (fits_nar_bool _) (g := (mkF m 11 #[.val (.ref a1), .val (.ref r1), .val (.int (0 : Int32))] [(.int (0 : Int32)), (.ref a1)])) rfl rfl (hb hby own_d24_11)
  refine own_by st58 ?_
  have F58_elements_a1 := F57_elements_a1.other W58 (Or.inr (slot_ne (Or.inr (hw _ (List.mem_of_getElem? (i := 181) rfl))) (Or.inr (hw _ (List.mem_of_getElem? (i := 183) rfl))) (by decide) (t := (.array (.object "java/lang/Object"))) (t' := .boolean) (by decide) (by decide)))
  have F58_allowNulls_a1 := F57_allowNulls_a1.same W58
  have Ex58_a1 := Ex57_a1.wr W58
  have K58 := K57.wr W58 (Or.inl (by simp))
  have Z58 := Nat.le_trans Z57 (Keep.of_wr W58).1
  have N58 := Fr.snoc X58 N57 ga
  show own_Go p.tables e below K (T58.setTop (mkF m 14 #[.val (.ref a1), .val (.ref r1), .val (.int (0 : Int32))] []))
  exact own_retV X58 hx hret (hb hby own_d24_14) (hK none X58 (fun _ => rfl) (by rw [e58]; exact ⟨rfl, N58, K58, Ex58_a1, F58_elements_a1⟩) (by decide) (by decide))
theorem own_pd6 : parseMethodDescriptor "([Ljava/lang/Object;Z)V" = some ⟨[(.array (.object "java/lang/Object")), .boolean], none⟩ := by decide +kernel
theorem own_pn22 : plainName "java/util/ImmutableCollections" = true := by first | (simp [plainName, overriddenIn]; done) | decide +kernel
theorem own_d22_0 : decode jdk_56_method_4_code 0 = .ok (.aload_n 0, 1) := by decide +kernel
theorem own_d22_1 : decode jdk_56_method_4_code 1 = .ok (.arraylength, 1) := by decide +kernel
theorem own_d22_2 : decode jdk_56_method_4_code 2 = .ok (.anewarray 2, 3) := by decide +kernel
theorem own_d22_5 : decode jdk_56_method_4_code 5 = .ok (.astore_n 1, 1) := by decide +kernel
theorem own_d22_6 : decode jdk_56_method_4_code 6 = .ok (.iconst 0, 1) := by decide +kernel
theorem own_d22_7 : decode jdk_56_method_4_code 7 = .ok (.istore_n 2, 1) := by decide +kernel
theorem own_d22_8 : decode jdk_56_method_4_code 8 = .ok (.iload_n 2, 1) := by decide +kernel
theorem own_d22_9 : decode jdk_56_method_4_code 9 = .ok (.aload_n 0, 1) := by decide +kernel
theorem own_d22_10 : decode jdk_56_method_4_code 10 = .ok (.arraylength, 1) := by decide +kernel
theorem own_d22_11 : decode jdk_56_method_4_code 11 = .ok (.if_icmp .ge 18, 3) := by decide +kernel
theorem own_d22_14 : decode jdk_56_method_4_code 14 = .ok (.aload_n 1, 1) := by decide +kernel
theorem own_d22_15 : decode jdk_56_method_4_code 15 = .ok (.iload_n 2, 1) := by decide +kernel
theorem own_d22_16 : decode jdk_56_method_4_code 16 = .ok (.aload_n 0, 1) := by decide +kernel
theorem own_d22_17 : decode jdk_56_method_4_code 17 = .ok (.iload_n 2, 1) := by decide +kernel
theorem own_d22_18 : decode jdk_56_method_4_code 18 = .ok (.aaload, 1) := by decide +kernel
theorem own_d22_19 : decode jdk_56_method_4_code 19 = .ok (.invokestatic 37, 3) := by decide +kernel
theorem own_d22_22 : decode jdk_56_method_4_code 22 = .ok (.aastore, 1) := by decide +kernel
theorem own_d22_23 : decode jdk_56_method_4_code 23 = .ok (.iinc 2 1, 3) := by decide +kernel
theorem own_d22_26 : decode jdk_56_method_4_code 26 = .ok (.goto (-18), 3) := by decide +kernel
theorem own_d22_29 : decode jdk_56_method_4_code 29 = .ok (.new 12, 3) := by decide +kernel
theorem own_d22_32 : decode jdk_56_method_4_code 32 = .ok (.dup, 1) := by decide +kernel
theorem own_d22_33 : decode jdk_56_method_4_code 33 = .ok (.aload_n 1, 1) := by decide +kernel
theorem own_d22_34 : decode jdk_56_method_4_code 34 = .ok (.iconst 0, 1) := by decide +kernel
theorem own_d22_35 : decode jdk_56_method_4_code 35 = .ok (.invokespecial 43, 3) := by decide +kernel
theorem own_d22_38 : decode jdk_56_method_4_code 38 = .ok (.areturn, 1) := by decide +kernel
theorem own_eflfa (m : MethodId) (ra : Addr) : entryFrame m #[(.ref ra)] 3 = mkF m 0 #[.val (.ref ra), .unset, .unset] [] := by first | (simp [entryFrame, mkF, argsToLocals, Value.category]; done) | rfl
def own_Qlfa (Z : State) (ra : Addr) (w : Addr) (k : ClassId) (em : Addr) (h0 : Heap) (n0 : Nat) (v : Option Value) (h : Heap) (L : List Loc) : Prop := ∃ lw : Addr, v = some (.ref lw) ∧ Fr n0 L ∧ Keep h0 h [] ∧ own_SZ Z h lw em 3
set_option maxRecDepth 65536 in
set_option maxHeartbeats 40000000 in
theorem own_rmlfa (l : Launch) (Z : State) (aw : Array Value) (hw : ∀ d ∈ tables_1, d.before aw Z = true) (ws : List Jvm.Cond) (ra : Addr) (w : Addr) (k : ClassId) (em : Addr) (h0 : Heap) (n0 : Nat) (Z0 : n0 ≤ h0.size) (A0 : own_Ar Z h0 ra k 3 [(.ref w), (.ref w), (.ref w)]) (Ew : Exa Z h0 w "com/example/skyroster/skyroster/UsedWindow") :
    MetFree l (⟨"java/util/ImmutableCollections", "listFromArray", "([Ljava/lang/Object;)Ljava/util/List;"⟩ : MethodName) (head1 (Jvm.Cond.code (⟨"java/util/ImmutableCollections", "listFromArray", "([Ljava/lang/Object;)Ljava/util/List;"⟩ : MethodName) jdk_56_method_4_code 3 (some (.object "java/util/List")) :: ws) ({ frames := 5, cells := 2, slots := 5, locals := 70 } : Room)) (fun a U => a = #[(.ref ra)] ∧ Z.Warmed39 U.vm ∧ U.heap = h0) (fun _ _ _ _ _ => True) (fun _ U o U' => ∃ v L, o = .returned v ∧ own_Qlfa Z ra w k em h0 n0 v U'.heap L ∧ FrameEnd U o U' L ({ frames := 5, cells := 2, slots := 5, locals := 70 } : Room).cells ({ frames := 5, cells := 2, slots := 5, locals := 70 } : Room).slots) := by
  refine own_met (Q := own_Qlfa Z ra w k em h0 n0) (plainFor_of_name own_pn22) ?_
  intro p e s m below meth c s₁ K hx hby hml hown hnm hret hZ X0 e0 hK
  have hown : s.vm.findClass "java/util/ImmutableCollections" = some m.cls := hown
  have N0 := Fr.nil n0
  refine own_by (fun t k => castTop (own_eflfa m ra) k) ?_
  show own_Go p.tables e below K (s₁.setTop (mkF m 0 #[.val (.ref ra), .unset, .unset] []))
  refine own_by (fun t k => XS.aloadN X0.here hx rfl (hb hby own_d22_0) rfl rfl k) ?_
  show own_Go p.tables e below K (s₁.setTop (mkF m 1 #[.val (.ref ra), .unset, .unset] [(.ref ra)]))
  obtain ⟨⟨cl59, Ar59, -, S59, M59, -⟩, -⟩ := id A0
  refine own_by (fun t k => X0.arraylength hx (by rw [e0]; exact Ar59.1) (State.isArrayOf_alike hZ.alike Ar59.2.1) (g := (mkF m 1 #[.val (.ref ra), .unset, .unset] [(.ref ra)])) rfl rfl (hb hby own_d22_1) t k) ?_
  rw [len_of S59 M59]
  show own_Go p.tables e below K (s₁.setTop (mkF m 2 #[.val (.ref ra), .unset, .unset] [(.int (3 : Int32))]))
  obtain ⟨T60, h60, k60, X60, e60, E60, A60, Ea60, Ov60, st60⟩ := newRE X0 hx hZ hown (hw _ (List.mem_of_getElem? (i := 155) rfl)) (hw _ (List.mem_of_getElem? (i := 75) rfl)) e0 (g := (mkF m 2 #[.val (.ref ra), .unset, .unset] [(.int (3 : Int32))])) rfl (hb hby own_d22_2) rfl (by decide) (cap := 3) (by decide) (by decide) (by decide) (by decide) (ad := "[Ljava/lang/Object;") (by decide +kernel)
  obtain ⟨b60, g60⟩ : ∃ z, z = h0.size := ⟨_, rfl⟩
  rw [← g60] at A60 Ea60 st60
  refine own_by st60 ?_
  have gn_b60 : n0 ≤ b60 := Nat.le_trans Z0 (Nat.le_of_eq g60.symm)
  have sz_b60 : h0.size ≤ b60 := Nat.le_trans (Keep.refl h0 []).1 (Nat.le_of_eq g60.symm)
  have ne_w_b60 : w ≠ b60 := Nat.ne_of_lt (Nat.lt_of_lt_of_le Ew.lt (Nat.le_of_eq g60.symm))
  have ne_ra_b60 : ra ≠ b60 := Nat.ne_of_lt (Nat.lt_of_lt_of_le A0.lt (Nat.le_of_eq g60.symm))
  have Ex60_w := Ew.ext E60
  have xa60_ra := A0.ext E60
  have K60 := (Keep.refl h0 []).ext E60
  have Z60 := Nat.le_trans Z0 E60.1
  have xn60 : own_Ar Z h60 b60 k60 (3 : Int32) [.null, .null, .null] := ⟨(Arv.new A60 (by decide)).pad (pad_rep [] .null 3), Ea60, Ov60⟩
  show own_Go p.tables e below K (T60.setTop (mkF m 5 #[.val (.ref ra), .unset, .unset] [(.ref b60)]))
  refine own_by (fun t k => XS.astoreN X60.here hx rfl (hb hby own_d22_5) rfl rfl (l' := #[.val (.ref ra), .val (.ref b60), .unset]) rfl k) ?_
  show own_Go p.tables e below K (T60.setTop (mkF m 6 #[.val (.ref ra), .val (.ref b60), .unset] []))
  refine own_by (fun t k => XS.iconst X60.here hx rfl (hb hby own_d22_6) k) ?_
  show own_Go p.tables e below K (T60.setTop (mkF m 7 #[.val (.ref ra), .val (.ref b60), .unset] [(.int (0 : Int32))]))
  refine own_by (fun t k => XS.istoreN X60.here hx rfl (hb hby own_d22_7) rfl (l' := #[.val (.ref ra), .val (.ref b60), .val (.int (0 : Int32))]) rfl k) ?_
  show own_Go p.tables e below K (T60.setTop (mkF m 8 #[.val (.ref ra), .val (.ref b60), .val (.int (0 : Int32))] []))
  refine own_by (fun t k => XS.iloadN X60.here hx rfl (hb hby own_d22_8) rfl k) ?_
  show own_Go p.tables e below K (T60.setTop (mkF m 9 #[.val (.ref ra), .val (.ref b60), .val (.int (0 : Int32))] [(.int (0 : Int32))]))
  refine own_by (fun t k => XS.aloadN X60.here hx rfl (hb hby own_d22_9) rfl rfl k) ?_
  show own_Go p.tables e below K (T60.setTop (mkF m 10 #[.val (.ref ra), .val (.ref b60), .val (.int (0 : Int32))] [(.ref ra), (.int (0 : Int32))]))
  obtain ⟨⟨cl61, Ar61, -, S61, M61, -⟩, -⟩ := id xa60_ra
  refine own_by (fun t k => X60.arraylength hx (by rw [e60]; exact Ar61.1) (State.isArrayOf_alike hZ.alike Ar61.2.1) (g := (mkF m 10 #[.val (.ref ra), .val (.ref b60), .val (.int (0 : Int32))] [(.ref ra), (.int (0 : Int32))])) rfl rfl (hb hby own_d22_10) t k) ?_
  rw [len_of S61 M61]
  show own_Go p.tables e below K (T60.setTop (mkF m 11 #[.val (.ref ra), .val (.ref b60), .val (.int (0 : Int32))] [(.int (3 : Int32)), (.int (0 : Int32))]))
  have hc11 : (0 : Int32) < (3 : Int32) := by decide
  refine own_by (fun t k => XS.icmpNo X60.here hx rfl (hb hby own_d22_11) rfl (tlt hc11).2.1 k) ?_
  show own_Go p.tables e below K (T60.setTop (mkF m 14 #[.val (.ref ra), .val (.ref b60), .val (.int (0 : Int32))] []))
  refine own_by (fun t k => XS.aloadN X60.here hx rfl (hb hby own_d22_14) rfl rfl k) ?_
  show own_Go p.tables e below K (T60.setTop (mkF m 15 #[.val (.ref ra), .val (.ref b60), .val (.int (0 : Int32))] [(.ref b60)]))
  refine own_by (fun t k => XS.iloadN X60.here hx rfl (hb hby own_d22_15) rfl k) ?_
  show own_Go p.tables e below K (T60.setTop (mkF m 16 #[.val (.ref ra), .val (.ref b60), .val (.int (0 : Int32))] [(.int (0 : Int32)), (.ref b60)]))
  refine own_by (fun t k => XS.aloadN X60.here hx rfl (hb hby own_d22_16) rfl rfl k) ?_
  show own_Go p.tables e below K (T60.setTop (mkF m 17 #[.val (.ref ra), .val (.ref b60), .val (.int (0 : Int32))] [(.ref ra), (.int (0 : Int32)), (.ref b60)]))
  refine own_by (fun t k => XS.iloadN X60.here hx rfl (hb hby own_d22_17) rfl k) ?_
  show own_Go p.tables e below K (T60.setTop (mkF m 18 #[.val (.ref ra), .val (.ref b60), .val (.int (0 : Int32))] [(.int (0 : Int32)), (.ref ra), (.int (0 : Int32)), (.ref b60)]))
  obtain ⟨⟨cl62, Ar62, -, S62, M62, H62, -⟩, -⟩ := id xa60_ra
  refine own_by (fun t k => X60.aaload hx (j := (0 : Int32)) (v := (.ref w)) (by rw [e60]; exact Ar62.1) (State.isArrayOf_alike hZ.alike Ar62.2.1) rfl Ar62.2.2 (inb_of S62 ⟨by decide, by decide⟩) (H62 0 (by rw [S62]; decide)) (g := (mkF m 18 #[.val (.ref ra), .val (.ref b60), .val (.int (0 : Int32))] [(.int (0 : Int32)), (.ref ra), (.int (0 : Int32)), (.ref b60)])) rfl rfl (hb hby own_d22_18) t k) ?_
  show own_Go p.tables e below K (T60.setTop (mkF m 19 #[.val (.ref ra), .val (.ref b60), .val (.int (0 : Int32))] [(.ref w), (.int (0 : Int32)), (.ref b60)]))
  obtain ⟨_, _, ⟨T63, L63, k63, n63⟩, -, X63, ⟨Lc63, hQ63, l63, y63, z63⟩, st63⟩ := Jvm.LawKit.callS X60 hx (y := (⟨"java/util/Objects", "requireNonNull", "(Ljava/lang/Object;)Ljava/lang/Object;"⟩ : MethodName)) hown (mvT hZ (hw _ (List.mem_of_getElem? (i := 156) rfl))) (mvT hZ (hw _ (List.mem_of_getElem? (i := 157) rfl))) (mvT hZ (hw _ (List.mem_of_getElem? (i := 158) rfl))) (mvT hZ (hw _ (List.mem_of_getElem? (i := 159) rfl))) (by decide) (backOf (W := 2) (own_rmrnn l Z aw hw [] w h60 n0 Z60) hZ (hw _ (List.mem_of_getElem? (i := 159) rfl)) (hw _ (List.mem_of_getElem? (i := 158) rfl)) (by decide) (by decide)) (g := (mkF m 19 #[.val (.ref ra), .val (.ref b60), .val (.int (0 : Int32))] [(.ref w), (.int (0 : Int32)), (.ref b60)])) rfl (by rw [hml]; rfl) (argsL := [(.ref w)]) (rest := [(.int (0 : Int32)), (.ref b60)]) (lenOf own_pd5 rfl) rfl (by show 2 * 0 + _ ≤ _; exact Nat.le_of_eq rfl) (hb hby own_d22_19) (fun _ _ => ⟨rfl, e60, (by decide : 1 + 0 ≤ _), (by decide : 3 + 0 ≤ _)⟩)
  dsimp only [Pt.U, Pt.locs, Pt.cells, Pt.slots] at X63 l63 y63 z63 st63 hQ63
  subst l63 y63 z63
  obtain ⟨rfl, N63q, e63⟩ := hQ63
  have N63 := Fr.app N0 N63q
  refine own_by st63 ?_
  show own_Go p.tables e below K (T63.setTop (mkF m 22 #[.val (.ref ra), .val (.ref b60), .val (.int (0 : Int32))] [(.ref w), (.int (0 : Int32)), (.ref b60)]))
  obtain ⟨⟨cl64, Ar64, q64, S64, M64, H64, U64⟩, Ea64, Ov64⟩ := id xn60
  obtain ⟨T64, h64, X64, e64, W64, st64⟩ := stR X63 hx hZ e63 Ar64 (j := (0 : Int32)) (inb_of S64 ⟨by decide, by decide⟩) rfl (Sto.ofV Ar64 q64 Ov64 (Ins.of_exa Ex60_w (hw _ (List.mem_of_getElem? (i := 76) rfl)))) (g := (mkF m 22 #[.val (.ref ra), .val (.ref b60), .val (.int (0 : Int32))] [(.ref w), (.int (0 : Int32)), (.ref b60)])) rfl rfl (hb hby own_d22_22)
  refine own_by st64 ?_
  have xs64 : own_Ar Z h64 b60 k60 (3 : Int32) [(.ref w), .null, .null] := ⟨Arv.set Ar64 q64 S64 M64 H64 U64 rfl W64 0 rfl (Nat.le_of_ble_eq_true rfl), Ea64.wr W64, Ov64⟩
  have xa64_ra := xa60_ra.other W64 ne_ra_b60
  have Ex64_w := Ex60_w.wr W64
  have K64 := K60.wr W64 (Or.inr sz_b60)
  have Z64 := Nat.le_trans Z60 (Keep.of_wr W64).1
  have N64 := Fr.snoc X64 N63 gn_b60
  show own_Go p.tables e below K (T64.setTop (mkF m 23 #[.val (.ref ra), .val (.ref b60), .val (.int (0 : Int32))] []))
  refine own_by (fun t k => XS.iinc X64.here hx rfl (hb hby own_d22_23) rfl (l' := #[.val (.ref ra), .val (.ref b60), .val (.int (1 : Int32))]) rfl k) ?_
  show own_Go p.tables e below K (T64.setTop (mkF m 26 #[.val (.ref ra), .val (.ref b60), .val (.int (1 : Int32))] []))
  refine own_by (fun t k => XS.goto X64.here hx rfl (pc0 := 26) (pc' := 8) rfl (hb hby own_d22_26) (by decide) (by decide) k) ?_
  show own_Go p.tables e below K (T64.setTop (mkF m 8 #[.val (.ref ra), .val (.ref b60), .val (.int (1 : Int32))] []))
  refine own_by (fun t k => XS.iloadN X64.here hx rfl (hb hby own_d22_8) rfl k) ?_
  show own_Go p.tables e below K (T64.setTop (mkF m 9 #[.val (.ref ra), .val (.ref b60), .val (.int (1 : Int32))] [(.int (1 : Int32))]))
  refine own_by (fun t k => XS.aloadN X64.here hx rfl (hb hby own_d22_9) rfl rfl k) ?_
  show own_Go p.tables e below K (T64.setTop (mkF m 10 #[.val (.ref ra), .val (.ref b60), .val (.int (1 : Int32))] [(.ref ra), (.int (1 : Int32))]))
  obtain ⟨⟨cl65, Ar65, -, S65, M65, -⟩, -⟩ := id xa64_ra
  refine own_by (fun t k => X64.arraylength hx (by rw [e64]; exact Ar65.1) (State.isArrayOf_alike hZ.alike Ar65.2.1) (g := (mkF m 10 #[.val (.ref ra), .val (.ref b60), .val (.int (1 : Int32))] [(.ref ra), (.int (1 : Int32))])) rfl rfl (hb hby own_d22_10) t k) ?_
  rw [len_of S65 M65]
  show own_Go p.tables e below K (T64.setTop (mkF m 11 #[.val (.ref ra), .val (.ref b60), .val (.int (1 : Int32))] [(.int (3 : Int32)), (.int (1 : Int32))]))
  have hc11 : (1 : Int32) < (3 : Int32) := by decide
  refine own_by (fun t k => XS.icmpNo X64.here hx rfl (hb hby own_d22_11) rfl (tlt hc11).2.1 k) ?_
  show own_Go p.tables e below K (T64.setTop (mkF m 14 #[.val (.ref ra), .val (.ref b60), .val (.int (1 : Int32))] []))
  refine own_by (fun t k => XS.aloadN X64.here hx rfl (hb hby own_d22_14) rfl rfl k) ?_
  show own_Go p.tables e below K (T64.setTop (mkF m 15 #[.val (.ref ra), .val (.ref b60), .val (.int (1 : Int32))] [(.ref b60)]))
  refine own_by (fun t k => XS.iloadN X64.here hx rfl (hb hby own_d22_15) rfl k) ?_
  show own_Go p.tables e below K (T64.setTop (mkF m 16 #[.val (.ref ra), .val (.ref b60), .val (.int (1 : Int32))] [(.int (1 : Int32)), (.ref b60)]))
  refine own_by (fun t k => XS.aloadN X64.here hx rfl (hb hby own_d22_16) rfl rfl k) ?_
  show own_Go p.tables e below K (T64.setTop (mkF m 17 #[.val (.ref ra), .val (.ref b60), .val (.int (1 : Int32))] [(.ref ra), (.int (1 : Int32)), (.ref b60)]))
  refine own_by (fun t k => XS.iloadN X64.here hx rfl (hb hby own_d22_17) rfl k) ?_
  show own_Go p.tables e below K (T64.setTop (mkF m 18 #[.val (.ref ra), .val (.ref b60), .val (.int (1 : Int32))] [(.int (1 : Int32)), (.ref ra), (.int (1 : Int32)), (.ref b60)]))
  obtain ⟨⟨cl66, Ar66, -, S66, M66, H66, -⟩, -⟩ := id xa64_ra
  refine own_by (fun t k => X64.aaload hx (j := (1 : Int32)) (v := (.ref w)) (by rw [e64]; exact Ar66.1) (State.isArrayOf_alike hZ.alike Ar66.2.1) rfl Ar66.2.2 (inb_of S66 ⟨by decide, by decide⟩) (H66 1 (by rw [S66]; decide)) (g := (mkF m 18 #[.val (.ref ra), .val (.ref b60), .val (.int (1 : Int32))] [(.int (1 : Int32)), (.ref ra), (.int (1 : Int32)), (.ref b60)])) rfl rfl (hb hby own_d22_18) t k) ?_
  show own_Go p.tables e below K (T64.setTop (mkF m 19 #[.val (.ref ra), .val (.ref b60), .val (.int (1 : Int32))] [(.ref w), (.int (1 : Int32)), (.ref b60)]))
  obtain ⟨_, _, ⟨T67, L67, k67, n67⟩, -, X67, ⟨Lc67, hQ67, l67, y67, z67⟩, st67⟩ := Jvm.LawKit.callS X64 hx (y := (⟨"java/util/Objects", "requireNonNull", "(Ljava/lang/Object;)Ljava/lang/Object;"⟩ : MethodName)) hown (mvT hZ (hw _ (List.mem_of_getElem? (i := 156) rfl))) (mvT hZ (hw _ (List.mem_of_getElem? (i := 157) rfl))) (mvT hZ (hw _ (List.mem_of_getElem? (i := 158) rfl))) (mvT hZ (hw _ (List.mem_of_getElem? (i := 159) rfl))) (by decide) (backOf (W := 2) (own_rmrnn l Z aw hw [] w h64 n0 Z64) hZ (hw _ (List.mem_of_getElem? (i := 159) rfl)) (hw _ (List.mem_of_getElem? (i := 158) rfl)) (by decide) (by decide)) (g := (mkF m 19 #[.val (.ref ra), .val (.ref b60), .val (.int (1 : Int32))] [(.ref w), (.int (1 : Int32)), (.ref b60)])) rfl (by rw [hml]; rfl) (argsL := [(.ref w)]) (rest := [(.int (1 : Int32)), (.ref b60)]) (lenOf own_pd5 rfl) rfl (by show 2 * 0 + _ ≤ _; exact Nat.le_of_eq rfl) (hb hby own_d22_19) (fun _ _ => ⟨rfl, e64, (by decide : 1 + 0 ≤ _), (by decide : 3 + 0 ≤ _)⟩)
  dsimp only [Pt.U, Pt.locs, Pt.cells, Pt.slots] at X67 l67 y67 z67 st67 hQ67
  subst l67 y67 z67
  obtain ⟨rfl, N67q, e67⟩ := hQ67
  have N67 := Fr.app N64 N67q
  refine own_by st67 ?_
  show own_Go p.tables e below K (T67.setTop (mkF m 22 #[.val (.ref ra), .val (.ref b60), .val (.int (1 : Int32))] [(.ref w), (.int (1 : Int32)), (.ref b60)]))
  obtain ⟨⟨cl68, Ar68, q68, S68, M68, H68, U68⟩, Ea68, Ov68⟩ := id xs64
  obtain ⟨T68, h68, X68, e68, W68, st68⟩ := stR X67 hx hZ e67 Ar68 (j := (1 : Int32)) (inb_of S68 ⟨by decide, by decide⟩) rfl (Sto.ofV Ar68 q68 Ov68 (Ins.of_exa Ex64_w (hw _ (List.mem_of_getElem? (i := 76) rfl)))) (g := (mkF m 22 #[.val (.ref ra), .val (.ref b60), .val (.int (1 : Int32))] [(.ref w), (.int (1 : Int32)), (.ref b60)])) rfl rfl (hb hby own_d22_22)
  refine own_by st68 ?_
  have xs68 : own_Ar Z h68 b60 k60 (3 : Int32) [(.ref w), (.ref w), .null] := ⟨Arv.set Ar68 q68 S68 M68 H68 U68 rfl W68 1 rfl (Nat.le_of_ble_eq_true rfl), Ea68.wr W68, Ov68⟩
  have xa68_ra := xa64_ra.other W68 ne_ra_b60
  have Ex68_w := Ex64_w.wr W68
  have K68 := K64.wr W68 (Or.inr sz_b60)
  have Z68 := Nat.le_trans Z64 (Keep.of_wr W68).1
  have N68 := Fr.snoc X68 N67 gn_b60
  show own_Go p.tables e below K (T68.setTop (mkF m 23 #[.val (.ref ra), .val (.ref b60), .val (.int (1 : Int32))] []))
  refine own_by (fun t k => XS.iinc X68.here hx rfl (hb hby own_d22_23) rfl (l' := #[.val (.ref ra), .val (.ref b60), .val (.int (2 : Int32))]) rfl k) ?_
  show own_Go p.tables e below K (T68.setTop (mkF m 26 #[.val (.ref ra), .val (.ref b60), .val (.int (2 : Int32))] []))
  refine own_by (fun t k => XS.goto X68.here hx rfl (pc0 := 26) (pc' := 8) rfl (hb hby own_d22_26) (by decide) (by decide) k) ?_
  show own_Go p.tables e below K (T68.setTop (mkF m 8 #[.val (.ref ra), .val (.ref b60), .val (.int (2 : Int32))] []))
  refine own_by (fun t k => XS.iloadN X68.here hx rfl (hb hby own_d22_8) rfl k) ?_
  show own_Go p.tables e below K (T68.setTop (mkF m 9 #[.val (.ref ra), .val (.ref b60), .val (.int (2 : Int32))] [(.int (2 : Int32))]))
  refine own_by (fun t k => XS.aloadN X68.here hx rfl (hb hby own_d22_9) rfl rfl k) ?_
  show own_Go p.tables e below K (T68.setTop (mkF m 10 #[.val (.ref ra), .val (.ref b60), .val (.int (2 : Int32))] [(.ref ra), (.int (2 : Int32))]))
  obtain ⟨⟨cl69, Ar69, -, S69, M69, -⟩, -⟩ := id xa68_ra
  refine own_by (fun t k => X68.arraylength hx (by rw [e68]; exact Ar69.1) (State.isArrayOf_alike hZ.alike Ar69.2.1) (g := (mkF m 10 #[.val (.ref ra), .val (.ref b60), .val (.int (2 : Int32))] [(.ref ra), (.int (2 : Int32))])) rfl rfl (hb hby own_d22_10) t k) ?_
  rw [len_of S69 M69]
  show own_Go p.tables e below K (T68.setTop (mkF m 11 #[.val (.ref ra), .val (.ref b60), .val (.int (2 : Int32))] [(.int (3 : Int32)), (.int (2 : Int32))]))
  have hc11 : (2 : Int32) < (3 : Int32) := by decide
  refine own_by (fun t k => XS.icmpNo X68.here hx rfl (hb hby own_d22_11) rfl (tlt hc11).2.1 k) ?_
  show own_Go p.tables e below K (T68.setTop (mkF m 14 #[.val (.ref ra), .val (.ref b60), .val (.int (2 : Int32))] []))
  refine own_by (fun t k => XS.aloadN X68.here hx rfl (hb hby own_d22_14) rfl rfl k) ?_
  show own_Go p.tables e below K (T68.setTop (mkF m 15 #[.val (.ref ra), .val (.ref b60), .val (.int (2 : Int32))] [(.ref b60)]))
  refine own_by (fun t k => XS.iloadN X68.here hx rfl (hb hby own_d22_15) rfl k) ?_
  show own_Go p.tables e below K (T68.setTop (mkF m 16 #[.val (.ref ra), .val (.ref b60), .val (.int (2 : Int32))] [(.int (2 : Int32)), (.ref b60)]))
  refine own_by (fun t k => XS.aloadN X68.here hx rfl (hb hby own_d22_16) rfl rfl k) ?_
  show own_Go p.tables e below K (T68.setTop (mkF m 17 #[.val (.ref ra), .val (.ref b60), .val (.int (2 : Int32))] [(.ref ra), (.int (2 : Int32)), (.ref b60)]))
  refine own_by (fun t k => XS.iloadN X68.here hx rfl (hb hby own_d22_17) rfl k) ?_
  show own_Go p.tables e below K (T68.setTop (mkF m 18 #[.val (.ref ra), .val (.ref b60), .val (.int (2 : Int32))] [(.int (2 : Int32)), (.ref ra), (.int (2 : Int32)), (.ref b60)]))
  obtain ⟨⟨cl70, Ar70, -, S70, M70, H70, -⟩, -⟩ := id xa68_ra
  refine own_by (fun t k => X68.aaload hx (j := (2 : Int32)) (v := (.ref w)) (by rw [e68]; exact Ar70.1) (State.isArrayOf_alike hZ.alike Ar70.2.1) rfl Ar70.2.2 (inb_of S70 ⟨by decide, by decide⟩) (H70 2 (by rw [S70]; decide)) (g := (mkF m 18 #[.val (.ref ra), .val (.ref b60), .val (.int (2 : Int32))] [(.int (2 : Int32)), (.ref ra), (.int (2 : Int32)), (.ref b60)])) rfl rfl (hb hby own_d22_18) t k) ?_
  show own_Go p.tables e below K (T68.setTop (mkF m 19 #[.val (.ref ra), .val (.ref b60), .val (.int (2 : Int32))] [(.ref w), (.int (2 : Int32)), (.ref b60)]))
  obtain ⟨_, _, ⟨T71, L71, k71, n71⟩, -, X71, ⟨Lc71, hQ71, l71, y71, z71⟩, st71⟩ := Jvm.LawKit.callS X68 hx (y := (⟨"java/util/Objects", "requireNonNull", "(Ljava/lang/Object;)Ljava/lang/Object;"⟩ : MethodName)) hown (mvT hZ (hw _ (List.mem_of_getElem? (i := 156) rfl))) (mvT hZ (hw _ (List.mem_of_getElem? (i := 157) rfl))) (mvT hZ (hw _ (List.mem_of_getElem? (i := 158) rfl))) (mvT hZ (hw _ (List.mem_of_getElem? (i := 159) rfl))) (by decide) (backOf (W := 2) (own_rmrnn l Z aw hw [] w h68 n0 Z68) hZ (hw _ (List.mem_of_getElem? (i := 159) rfl)) (hw _ (List.mem_of_getElem? (i := 158) rfl)) (by decide) (by decide)) (g := (mkF m 19 #[.val (.ref ra), .val (.ref b60), .val (.int (2 : Int32))] [(.ref w), (.int (2 : Int32)), (.ref b60)])) rfl (by rw [hml]; rfl) (argsL := [(.ref w)]) (rest := [(.int (2 : Int32)), (.ref b60)]) (lenOf own_pd5 rfl) rfl (by show 2 * 0 + _ ≤ _; exact Nat.le_of_eq rfl) (hb hby own_d22_19) (fun _ _ => ⟨rfl, e68, (by decide : 1 + 0 ≤ _), (by decide : 3 + 0 ≤ _)⟩)
  dsimp only [Pt.U, Pt.locs, Pt.cells, Pt.slots] at X71 l71 y71 z71 st71 hQ71
  subst l71 y71 z71
  obtain ⟨rfl, N71q, e71⟩ := hQ71
  have N71 := Fr.app N68 N71q
  refine own_by st71 ?_
  show own_Go p.tables e below K (T71.setTop (mkF m 22 #[.val (.ref ra), .val (.ref b60), .val (.int (2 : Int32))] [(.ref w), (.int (2 : Int32)), (.ref b60)]))
  obtain ⟨⟨cl72, Ar72, q72, S72, M72, H72, U72⟩, Ea72, Ov72⟩ := id xs68
  obtain ⟨T72, h72, X72, e72, W72, st72⟩ := stR X71 hx hZ e71 Ar72 (j := (2 : Int32)) (inb_of S72 ⟨by decide, by decide⟩) rfl (Sto.ofV Ar72 q72 Ov72 (Ins.of_exa Ex68_w (hw _ (List.mem_of_getElem? (i := 76) rfl)))) (g := (mkF m 22 #[.val (.ref ra), .val (.ref b60), .val (.int (2 : Int32))] [(.ref w), (.int (2 : Int32)), (.ref b60)])) rfl rfl (hb hby own_d22_22)
  refine own_by st72 ?_
  have xs72 : own_Ar Z h72 b60 k60 (3 : Int32) [(.ref w), (.ref w), (.ref w)] := ⟨Arv.set Ar72 q72 S72 M72 H72 U72 rfl W72 2 rfl (Nat.le_of_ble_eq_true rfl), Ea72.wr W72, Ov72⟩
  have xa72_ra := xa68_ra.other W72 ne_ra_b60
  have Ex72_w := Ex68_w.wr W72
  have K72 := K68.wr W72 (Or.inr sz_b60)
  have Z72 := Nat.le_trans Z68 (Keep.of_wr W72).1
  have N72 := Fr.snoc X72 N71 gn_b60
  show own_Go p.tables e below K (T72.setTop (mkF m 23 #[.val (.ref ra), .val (.ref b60), .val (.int (2 : Int32))] []))
  refine own_by (fun t k => XS.iinc X72.here hx rfl (hb hby own_d22_23) rfl (l' := #[.val (.ref ra), .val (.ref b60), .val (.int (3 : Int32))]) rfl k) ?_
  show own_Go p.tables e below K (T72.setTop (mkF m 26 #[.val (.ref ra), .val (.ref b60), .val (.int (3 : Int32))] []))
  refine own_by (fun t k => XS.goto X72.here hx rfl (pc0 := 26) (pc' := 8) rfl (hb hby own_d22_26) (by decide) (by decide) k) ?_
  show own_Go p.tables e below K (T72.setTop (mkF m 8 #[.val (.ref ra), .val (.ref b60), .val (.int (3 : Int32))] []))
  refine own_by (fun t k => XS.iloadN X72.here hx rfl (hb hby own_d22_8) rfl k) ?_
  show own_Go p.tables e below K (T72.setTop (mkF m 9 #[.val (.ref ra), .val (.ref b60), .val (.int (3 : Int32))] [(.int (3 : Int32))]))
  refine own_by (fun t k => XS.aloadN X72.here hx rfl (hb hby own_d22_9) rfl rfl k) ?_
  show own_Go p.tables e below K (T72.setTop (mkF m 10 #[.val (.ref ra), .val (.ref b60), .val (.int (3 : Int32))] [(.ref ra), (.int (3 : Int32))]))
  obtain ⟨⟨cl73, Ar73, -, S73, M73, -⟩, -⟩ := id xa72_ra
  refine own_by (fun t k => X72.arraylength hx (by rw [e72]; exact Ar73.1) (State.isArrayOf_alike hZ.alike Ar73.2.1) (g := (mkF m 10 #[.val (.ref ra), .val (.ref b60), .val (.int (3 : Int32))] [(.ref ra), (.int (3 : Int32))])) rfl rfl (hb hby own_d22_10) t k) ?_
  rw [len_of S73 M73]
  show own_Go p.tables e below K (T72.setTop (mkF m 11 #[.val (.ref ra), .val (.ref b60), .val (.int (3 : Int32))] [(.int (3 : Int32)), (.int (3 : Int32))]))
  have hc11 : ¬ ((3 : Int32) < (3 : Int32)) := by decide
  refine own_by (fun t k => XS.icmpYes X72.here hx rfl (pc0 := 11) (pc' := 29) rfl (hb hby own_d22_11) rfl (flt hc11).2.1 (by decide) (by decide) k) ?_
  show own_Go p.tables e below K (T72.setTop (mkF m 29 #[.val (.ref ra), .val (.ref b60), .val (.int (3 : Int32))] []))
  obtain ⟨T74, h74, X74, e74, E74, A74, D74, -, st74⟩ := newO X72 hx hZ hown (hw _ (List.mem_of_getElem? (i := 105) rfl)) (hw _ (List.mem_of_getElem? (i := 160) rfl)) (hw _ (List.mem_of_getElem? (i := 161) rfl)) e72 (g := (mkF m 29 #[.val (.ref ra), .val (.ref b60), .val (.int (3 : Int32))] [])) rfl (hb hby own_d22_29) (by decide) (by decide)
  obtain ⟨b74, g74⟩ : ∃ z, z = h72.size := ⟨_, rfl⟩
  rw [← g74] at A74 D74 st74
  refine own_by st74 ?_
  have gn_b74 : n0 ≤ b74 := Nat.le_trans Z72 (Nat.le_of_eq g74.symm)
  have ne_ra_b74 : ra ≠ b74 := Nat.ne_of_lt (Nat.lt_of_lt_of_le xa72_ra.lt (Nat.le_of_eq g74.symm))
  have ne_b60_b74 : b60 ≠ b74 := Nat.ne_of_lt (Nat.lt_of_lt_of_le xs72.lt (Nat.le_of_eq g74.symm))
  have sz_b74 : h0.size ≤ b74 := Nat.le_trans K72.1 (Nat.le_of_eq g74.symm)
  have ne_w_b74 : w ≠ b74 := Nat.ne_of_lt (Nat.lt_of_lt_of_le Ex72_w.lt (Nat.le_of_eq g74.symm))
  have Ex74_w := Ex72_w.ext E74
  have xa74_ra := xa72_ra.ext E74
  have xa74_b60 := xs72.ext E74
  have K74 := K72.ext E74
  have Z74 := Nat.le_trans Z72 E74.1
  have F74_elements_b74 : Fld Z h74 b74 "java/util/ImmutableCollections$ListN" "elements" "[Ljava/lang/Object;" .null := D74 (Or.inr (hw _ (List.mem_of_getElem? (i := 181) rfl))) (ty := (.array (.object "java/lang/Object"))) (by decide)
  have F74_allowNulls_b74 : Fld Z h74 b74 "java/util/ImmutableCollections$ListN" "allowNulls" "Z" (.int (0 : Int32)) := D74 (Or.inr (hw _ (List.mem_of_getElem? (i := 183) rfl))) (ty := .boolean) (by decide)
  show own_Go p.tables e below K (T74.setTop (mkF m 32 #[.val (.ref ra), .val (.ref b60), .val (.int (3 : Int32))] [(.ref b74)]))
  refine own_by (fun t k => XS.dup X74.here hx rfl (hb hby own_d22_32) rfl rfl k) ?_
  show own_Go p.tables e below K (T74.setTop (mkF m 33 #[.val (.ref ra), .val (.ref b60), .val (.int (3 : Int32))] [(.ref b74), (.ref b74)]))
  refine own_by (fun t k => XS.aloadN X74.here hx rfl (hb hby own_d22_33) rfl rfl k) ?_
  show own_Go p.tables e below K (T74.setTop (mkF m 34 #[.val (.ref ra), .val (.ref b60), .val (.int (3 : Int32))] [(.ref b60), (.ref b74), (.ref b74)]))
  refine own_by (fun t k => XS.iconst X74.here hx rfl (hb hby own_d22_34) k) ?_
  show own_Go p.tables e below K (T74.setTop (mkF m 35 #[.val (.ref ra), .val (.ref b60), .val (.int (3 : Int32))] [(.int (0 : Int32)), (.ref b60), (.ref b74), (.ref b74)]))
  obtain ⟨_, _, ⟨T75, L75, k75, n75⟩, -, X75, ⟨Lc75, hQ75, l75, y75, z75⟩, st75⟩ := X74.specialBackNest hx (y := (⟨"java/util/ImmutableCollections$ListN", "<init>", "([Ljava/lang/Object;Z)V"⟩ : MethodName)) rfl hown (own_mvMN hZ (hw _ (List.mem_of_getElem? (i := 162) rfl))) (mvT hZ (hw _ (List.mem_of_getElem? (i := 163) rfl))) (mvT hZ (hw _ (List.mem_of_getElem? (i := 165) rfl))) (by decide) (backOf (W := 1) (own_rmlni l Z aw hw [] b74 b60 h74 n0 Z74 A74 gn_b74 F74_elements_b74 F74_allowNulls_b74) hZ (hw _ (List.mem_of_getElem? (i := 165) rfl)) (hw _ (List.mem_of_getElem? (i := 161) rfl)) (by decide) (by decide)) (g := (mkF m 35 #[.val (.ref ra), .val (.ref b60), .val (.int (3 : Int32))] [(.int (0 : Int32)), (.ref b60), (.ref b74), (.ref b74)])) rfl (by rw [hml]; rfl) (Steps.refl _) (a := b74) (argsL := [(.ref b60), (.int (0 : Int32))]) (rest := [(.ref b74)]) (lenOf own_pd6 rfl) rfl (by show 2 * 0 + _ ≤ _; exact Nat.le_of_eq rfl) (hb hby own_d22_35) (fun _ _ => ⟨rfl, e74, (by decide : 2 + 0 ≤ _), (by decide : 5 + 0 ≤ _)⟩)
  dsimp only [Pt.U, Pt.locs, Pt.cells, Pt.slots] at X75 l75 y75 z75 st75 hQ75
  subst l75 y75 z75
  obtain ⟨rfl, N75q, Kp75, Xp75, Fp75⟩ := hQ75
  have N75 := Fr.app N72 N75q
  refine own_by (fun t k => st75.trans k) ?_
  have xa75_ra := xa74_ra.keep Kp75 (ninS ne_ra_b74 nin0)
  have xa75_b60 := xa74_b60.keep Kp75 (ninS ne_b60_b74 nin0)
  have Ex75_w := Ex74_w.keep Kp75
  have Ex75_b74 := A74.keep Kp75
  have K75 := K74.trans Kp75 (allS (Or.inr sz_b74) (all0))
  have Z75 := Nat.le_trans Z74 Kp75.1
  show own_Go p.tables e below K (T75.setTop (mkF m 38 #[.val (.ref ra), .val (.ref b60), .val (.int (3 : Int32))] [(.ref b74)]))
  exact own_retA X75 hx hret rfl rfl rfl (hb hby own_d22_38) (hK (some (.ref b74)) X75 (fun h => by rw [hret] at h; cases h) (⟨_, rfl, N75, K75, Or.inl ⟨Xp75, _, Fp75, xa75_b60.len⟩⟩) (by decide) (by decide))
theorem own_pd7 : parseMethodDescriptor "(Ljava/lang/Object;)V" = some ⟨[(.object "java/lang/Object")], none⟩ := by decide +kernel
theorem own_d21_0 : decode jdk_40_method_47_code 0 = .ok (.aload_n 0, 1) := by decide +kernel
theorem own_d21_1 : decode jdk_40_method_47_code 1 = .ok (.arraylength, 1) := by decide +kernel
theorem own_d21_2 : decode jdk_40_method_47_code 2 = .ok (.tableswitch 57 0 2 #[26, 32, 43], 26) := by decide +kernel
theorem own_d21_34 : decode jdk_40_method_47_code 34 = .ok (.new 96, 3) := by decide +kernel
theorem own_d21_37 : decode jdk_40_method_47_code 37 = .ok (.dup, 1) := by decide +kernel
theorem own_d21_38 : decode jdk_40_method_47_code 38 = .ok (.aload_n 0, 1) := by decide +kernel
theorem own_d21_39 : decode jdk_40_method_47_code 39 = .ok (.iconst 0, 1) := by decide +kernel
theorem own_d21_40 : decode jdk_40_method_47_code 40 = .ok (.aaload, 1) := by decide +kernel
theorem own_d21_41 : decode jdk_40_method_47_code 41 = .ok (.invokespecial 98, 3) := by decide +kernel
theorem own_d21_44 : decode jdk_40_method_47_code 44 = .ok (.areturn, 1) := by decide +kernel
theorem own_efofa1 (m : MethodId) (ra : Addr) : entryFrame m #[(.ref ra)] 2 = mkF m 0 #[.val (.ref ra), .unset] [] := by first | (simp [entryFrame, mkF, argsToLocals, Value.category]; done) | rfl
def own_Qofa1 (Z : State) (ra : Addr) (w : Addr) (k : ClassId) (dd : Addr) (lz : Addr) (ez : Addr) (em : Addr) (mr : Addr) (h0 : Heap) (n0 : Nat) (v : Option Value) (h : Heap) (L : List Loc) : Prop := ∃ lw : Addr, v = some (.ref lw) ∧ Fr n0 L ∧ Keep h0 h [] ∧ own_SZ Z h lw em 1
set_option maxRecDepth 65536 in
set_option maxHeartbeats 40000000 in
theorem own_rmofa1 (l : Launch) (Z : State) (aw : Array Value) (hw : ∀ d ∈ tables_1, d.before aw Z = true) (ws : List Jvm.Cond) (ra : Addr) (w : Addr) (k : ClassId) (dd : Addr) (lz : Addr) (ez : Addr) (em : Addr) (mr : Addr) (h0 : Heap) (n0 : Nat) (Z0 : n0 ≤ h0.size) (A0 : own_Ar Z h0 ra k 1 [(.ref w)]) (Ew : Exa Z h0 w "com/example/skyroster/skyroster/UsedWindow") (O0 : Old Z n0 h0) (S0 : own_St Z dd lz ez em mr) :
    MetFree l (⟨"java/util/List", "of", "([Ljava/lang/Object;)Ljava/util/List;"⟩ : MethodName) (head1 (Jvm.Cond.code (⟨"java/util/List", "of", "([Ljava/lang/Object;)Ljava/util/List;"⟩ : MethodName) jdk_40_method_47_code 2 (some (.object "java/util/List")) :: ws) ({ frames := 6, cells := 2, slots := 5, locals := 90 } : Room)) (fun a U => a = #[(.ref ra)] ∧ Z.Warmed39 U.vm ∧ U.heap = h0) (fun _ _ _ _ _ => True) (fun _ U o U' => ∃ v L, o = .returned v ∧ own_Qofa1 Z ra w k dd lz ez em mr h0 n0 v U'.heap L ∧ FrameEnd U o U' L ({ frames := 6, cells := 2, slots := 5, locals := 90 } : Room).cells ({ frames := 6, cells := 2, slots := 5, locals := 90 } : Room).slots) := by
  refine own_met (Q := own_Qofa1 Z ra w k dd lz ez em mr h0 n0) (plainFor_of_name own_pn16) ?_
  intro p e s m below meth c s₁ K hx hby hml hown hnm hret hZ X0 e0 hK
  have hown : s.vm.findClass "java/util/List" = some m.cls := hown
  have N0 := Fr.nil n0
  refine own_by (fun t k => castTop (own_efofa1 m ra) k) ?_
  show own_Go p.tables e below K (s₁.setTop (mkF m 0 #[.val (.ref ra), .unset] []))
  refine own_by (fun t k => XS.aloadN X0.here hx rfl (hb hby own_d21_0) rfl rfl k) ?_
  show own_Go p.tables e below K (s₁.setTop (mkF m 1 #[.val (.ref ra), .unset] [(.ref ra)]))
  obtain ⟨⟨cl76, Ar76, -, S76, M76, -⟩, -⟩ := id A0
  refine own_by (fun t k => X0.arraylength hx (by rw [e0]; exact Ar76.1) (State.isArrayOf_alike hZ.alike Ar76.2.1) (g := (mkF m 1 #[.val (.ref ra), .unset] [(.ref ra)])) rfl rfl (hb hby own_d21_1) t k) ?_
  rw [len_of S76 M76]
  show own_Go p.tables e below K (s₁.setTop (mkF m 2 #[.val (.ref ra), .unset] [(.int (1 : Int32))]))
  have hs2_0 : ¬ (1 : Int32) = (0 : Int32) := by decide
  have hs2_1 : (1 : Int32) = (1 : Int32) := by decide
  refine own_by (fun t k => XS.tswIn X0.here hx rfl (pc0 := 2) (pc' := 34) (o := 32) rfl (hb hby own_d21_2) rfl (by rw [hs2_1]; decide) (by rw [hs2_1]; rfl) (by decide) (by decide) k) ?_
  show own_Go p.tables e below K (s₁.setTop (mkF m 34 #[.val (.ref ra), .unset] []))
  obtain ⟨T77, h77, X77, e77, E77, A77, D77, -, st77⟩ := newO X0 hx hZ hown (hw _ (List.mem_of_getElem? (i := 251) rfl)) (hw _ (List.mem_of_getElem? (i := 252) rfl)) (hw _ (List.mem_of_getElem? (i := 253) rfl)) e0 (g := (mkF m 34 #[.val (.ref ra), .unset] [])) rfl (hb hby own_d21_34) (by decide) (by decide)
  obtain ⟨b77, g77⟩ : ∃ z, z = h0.size := ⟨_, rfl⟩
  rw [← g77] at A77 D77 st77
  refine own_by st77 ?_
  have gn_b77 : n0 ≤ b77 := Nat.le_trans Z0 (Nat.le_of_eq g77.symm)
  have ne_ra_b77 : ra ≠ b77 := Nat.ne_of_lt (Nat.lt_of_lt_of_le A0.lt (Nat.le_of_eq g77.symm))
  have sz_b77 : h0.size ≤ b77 := Nat.le_trans (Keep.refl h0 []).1 (Nat.le_of_eq g77.symm)
  have ne_w_b77 : w ≠ b77 := Nat.ne_of_lt (Nat.lt_of_lt_of_le Ew.lt (Nat.le_of_eq g77.symm))
  have Ex77_w := Ew.ext E77
  have xa77_ra := A0.ext E77
  have K77 := (Keep.refl h0 []).ext E77
  have Z77 := Nat.le_trans Z0 E77.1
  have O77 := O0.ext E77
  have F77_e0_b77 : Fld Z h77 b77 "java/util/ImmutableCollections$List12" "e0" "Ljava/lang/Object;" .null := D77 (Or.inr (hw _ (List.mem_of_getElem? (i := 264) rfl))) (ty := (.object "java/lang/Object")) (by decide)
  have F77_e1_b77 : Fld Z h77 b77 "java/util/ImmutableCollections$List12" "e1" "Ljava/lang/Object;" .null := D77 (Or.inr (hw _ (List.mem_of_getElem? (i := 266) rfl))) (ty := (.object "java/lang/Object")) (by decide)
  show own_Go p.tables e below K (T77.setTop (mkF m 37 #[.val (.ref ra), .unset] [(.ref b77)]))
  refine own_by (fun t k => XS.dup X77.here hx rfl (hb hby own_d21_37) rfl rfl k) ?_
  show own_Go p.tables e below K (T77.setTop (mkF m 38 #[.val (.ref ra), .unset] [(.ref b77), (.ref b77)]))
  refine own_by (fun t k => XS.aloadN X77.here hx rfl (hb hby own_d21_38) rfl rfl k) ?_
  show own_Go p.tables e below K (T77.setTop (mkF m 39 #[.val (.ref ra), .unset] [(.ref ra), (.ref b77), (.ref b77)]))
  refine own_by (fun t k => XS.iconst X77.here hx rfl (hb hby own_d21_39) k) ?_
  show own_Go p.tables e below K (T77.setTop (mkF m 40 #[.val (.ref ra), .unset] [(.int (0 : Int32)), (.ref ra), (.ref b77), (.ref b77)]))
  obtain ⟨⟨cl78, Ar78, -, S78, M78, H78, -⟩, -⟩ := id xa77_ra
  refine own_by (fun t k => X77.aaload hx (j := (0 : Int32)) (v := (.ref w)) (by rw [e77]; exact Ar78.1) (State.isArrayOf_alike hZ.alike Ar78.2.1) rfl Ar78.2.2 (inb_of S78 ⟨by decide, by decide⟩) (H78 0 (by rw [S78]; decide)) (g := (mkF m 40 #[.val (.ref ra), .unset] [(.int (0 : Int32)), (.ref ra), (.ref b77), (.ref b77)])) rfl rfl (hb hby own_d21_40) t k) ?_
  show own_Go p.tables e below K (T77.setTop (mkF m 41 #[.val (.ref ra), .unset] [(.ref w), (.ref b77), (.ref b77)]))
  obtain ⟨_, _, ⟨T79, L79, k79, n79⟩, -, X79, ⟨Lc79, hQ79, l79, y79, z79⟩, st79⟩ := X77.specialBack hx (y := (⟨"java/util/ImmutableCollections$List12", "<init>", "(Ljava/lang/Object;)V"⟩ : MethodName)) rfl hown (mvT hZ (hw _ (List.mem_of_getElem? (i := 274) rfl))) (mvT hZ (hw _ (List.mem_of_getElem? (i := 275) rfl))) (mvT hZ (hw _ (List.mem_of_getElem? (i := 276) rfl))) (by decide) (backOf (W := 1) (own_rml1i l Z aw hw [] b77 w dd lz ez em mr h77 n0 Z77 A77 gn_b77 F77_e0_b77 F77_e1_b77 O77 S0) hZ (hw _ (List.mem_of_getElem? (i := 276) rfl)) (hw _ (List.mem_of_getElem? (i := 253) rfl)) (by decide) (by decide)) (g := (mkF m 41 #[.val (.ref ra), .unset] [(.ref w), (.ref b77), (.ref b77)])) rfl (by rw [hml]; rfl) (Steps.refl _) (a := b77) (argsL := [(.ref w)]) (rest := [(.ref b77)]) (lenOf own_pd7 rfl) rfl (by show 2 * 0 + _ ≤ _; exact Nat.le_of_eq rfl) (hb hby own_d21_41) (fun _ _ => ⟨rfl, e77, (by decide : 1 + 0 ≤ _), (by decide : 2 + 0 ≤ _)⟩)
  dsimp only [Pt.U, Pt.locs, Pt.cells, Pt.slots] at X79 l79 y79 z79 st79 hQ79
  subst l79 y79 z79
  obtain ⟨rfl, N79q, Kp79, Xp79, Fp79⟩ := hQ79
  have N79 := Fr.app N0 N79q
  refine own_by (fun t k => st79.trans k) ?_
  have xa79_ra := xa77_ra.keep Kp79 (ninS ne_ra_b77 nin0)
  have Ex79_w := Ex77_w.keep Kp79
  have Ex79_b77 := A77.keep Kp79
  have K79 := K77.trans Kp79 (allS (Or.inr sz_b77) (all0))
  have Z79 := Nat.le_trans Z77 Kp79.1
  have O79 := O77.keep Kp79 (allS gn_b77 (all0))
  show own_Go p.tables e below K (T79.setTop (mkF m 44 #[.val (.ref ra), .unset] [(.ref b77)]))
  exact own_retA X79 hx hret rfl rfl rfl (hb hby own_d21_44) (hK (some (.ref b77)) X79 (fun h => by rw [hret] at h; cases h) (⟨_, rfl, N79, K79, Or.inr ⟨Xp79, _, Fp79, Or.inl ⟨rfl, rfl⟩⟩⟩) (by decide) (by decide))
theorem own_pd8 : parseMethodDescriptor "(Ljava/lang/Object;Ljava/lang/Object;)V" = some ⟨[(.object "java/lang/Object"), (.object "java/lang/Object")], none⟩ := by decide +kernel
theorem own_d21_45 : decode jdk_40_method_47_code 45 = .ok (.new 96, 3) := by decide +kernel
theorem own_d21_48 : decode jdk_40_method_47_code 48 = .ok (.dup, 1) := by decide +kernel
theorem own_d21_49 : decode jdk_40_method_47_code 49 = .ok (.aload_n 0, 1) := by decide +kernel
theorem own_d21_50 : decode jdk_40_method_47_code 50 = .ok (.iconst 0, 1) := by decide +kernel
theorem own_d21_51 : decode jdk_40_method_47_code 51 = .ok (.aaload, 1) := by decide +kernel
theorem own_d21_52 : decode jdk_40_method_47_code 52 = .ok (.aload_n 0, 1) := by decide +kernel
theorem own_d21_53 : decode jdk_40_method_47_code 53 = .ok (.iconst 1, 1) := by decide +kernel
theorem own_d21_54 : decode jdk_40_method_47_code 54 = .ok (.aaload, 1) := by decide +kernel
theorem own_d21_55 : decode jdk_40_method_47_code 55 = .ok (.invokespecial 100, 3) := by decide +kernel
theorem own_d21_58 : decode jdk_40_method_47_code 58 = .ok (.areturn, 1) := by decide +kernel
theorem own_efofa2 (m : MethodId) (ra : Addr) : entryFrame m #[(.ref ra)] 2 = mkF m 0 #[.val (.ref ra), .unset] [] := by first | (simp [entryFrame, mkF, argsToLocals, Value.category]; done) | rfl
def own_Qofa2 (Z : State) (ra : Addr) (w : Addr) (k : ClassId) (dd : Addr) (lz : Addr) (ez : Addr) (em : Addr) (mr : Addr) (h0 : Heap) (n0 : Nat) (v : Option Value) (h : Heap) (L : List Loc) : Prop := ∃ lw : Addr, v = some (.ref lw) ∧ Fr n0 L ∧ Keep h0 h [] ∧ own_SZ Z h lw em 2
set_option maxRecDepth 65536 in
set_option maxHeartbeats 40000000 in
theorem own_rmofa2 (l : Launch) (Z : State) (aw : Array Value) (hw : ∀ d ∈ tables_1, d.before aw Z = true) (ws : List Jvm.Cond) (ra : Addr) (w : Addr) (k : ClassId) (dd : Addr) (lz : Addr) (ez : Addr) (em : Addr) (mr : Addr) (h0 : Heap) (n0 : Nat) (Z0 : n0 ≤ h0.size) (A0 : own_Ar Z h0 ra k 2 [(.ref w), (.ref w)]) (Ew : Exa Z h0 w "com/example/skyroster/skyroster/UsedWindow") (O0 : Old Z n0 h0) (S0 : own_St Z dd lz ez em mr) :
    MetFree l (⟨"java/util/List", "of", "([Ljava/lang/Object;)Ljava/util/List;"⟩ : MethodName) (head1 (Jvm.Cond.code (⟨"java/util/List", "of", "([Ljava/lang/Object;)Ljava/util/List;"⟩ : MethodName) jdk_40_method_47_code 2 (some (.object "java/util/List")) :: ws) ({ frames := 6, cells := 2, slots := 5, locals := 90 } : Room)) (fun a U => a = #[(.ref ra)] ∧ Z.Warmed39 U.vm ∧ U.heap = h0) (fun _ _ _ _ _ => True) (fun _ U o U' => ∃ v L, o = .returned v ∧ own_Qofa2 Z ra w k dd lz ez em mr h0 n0 v U'.heap L ∧ FrameEnd U o U' L ({ frames := 6, cells := 2, slots := 5, locals := 90 } : Room).cells ({ frames := 6, cells := 2, slots := 5, locals := 90 } : Room).slots) := by
  refine own_met (Q := own_Qofa2 Z ra w k dd lz ez em mr h0 n0) (plainFor_of_name own_pn16) ?_
  intro p e s m below meth c s₁ K hx hby hml hown hnm hret hZ X0 e0 hK
  have hown : s.vm.findClass "java/util/List" = some m.cls := hown
  have N0 := Fr.nil n0
  refine own_by (fun t k => castTop (own_efofa2 m ra) k) ?_
  show own_Go p.tables e below K (s₁.setTop (mkF m 0 #[.val (.ref ra), .unset] []))
  refine own_by (fun t k => XS.aloadN X0.here hx rfl (hb hby own_d21_0) rfl rfl k) ?_
  show own_Go p.tables e below K (s₁.setTop (mkF m 1 #[.val (.ref ra), .unset] [(.ref ra)]))
  obtain ⟨⟨cl80, Ar80, -, S80, M80, -⟩, -⟩ := id A0
  refine own_by (fun t k => X0.arraylength hx (by rw [e0]; exact Ar80.1) (State.isArrayOf_alike hZ.alike Ar80.2.1) (g := (mkF m 1 #[.val (.ref ra), .unset] [(.ref ra)])) rfl rfl (hb hby own_d21_1) t k) ?_
  rw [len_of S80 M80]
  show own_Go p.tables e below K (s₁.setTop (mkF m 2 #[.val (.ref ra), .unset] [(.int (2 : Int32))]))
  have hs2_0 : ¬ (2 : Int32) = (0 : Int32) := by decide
  have hs2_1 : ¬ (2 : Int32) = (1 : Int32) := by decide
  have hs2_2 : (2 : Int32) = (2 : Int32) := by decide
  refine own_by (fun t k => XS.tswIn X0.here hx rfl (pc0 := 2) (pc' := 45) (o := 43) rfl (hb hby own_d21_2) rfl (by rw [hs2_2]; decide) (by rw [hs2_2]; rfl) (by decide) (by decide) k) ?_
  show own_Go p.tables e below K (s₁.setTop (mkF m 45 #[.val (.ref ra), .unset] []))
  obtain ⟨T81, h81, X81, e81, E81, A81, D81, -, st81⟩ := newO X0 hx hZ hown (hw _ (List.mem_of_getElem? (i := 251) rfl)) (hw _ (List.mem_of_getElem? (i := 252) rfl)) (hw _ (List.mem_of_getElem? (i := 253) rfl)) e0 (g := (mkF m 45 #[.val (.ref ra), .unset] [])) rfl (hb hby own_d21_45) (by decide) (by decide)
  obtain ⟨b81, g81⟩ : ∃ z, z = h0.size := ⟨_, rfl⟩
  rw [← g81] at A81 D81 st81
  refine own_by st81 ?_
  have gn_b81 : n0 ≤ b81 := Nat.le_trans Z0 (Nat.le_of_eq g81.symm)
  have ne_ra_b81 : ra ≠ b81 := Nat.ne_of_lt (Nat.lt_of_lt_of_le A0.lt (Nat.le_of_eq g81.symm))
  have sz_b81 : h0.size ≤ b81 := Nat.le_trans (Keep.refl h0 []).1 (Nat.le_of_eq g81.symm)
  have ne_w_b81 : w ≠ b81 := Nat.ne_of_lt (Nat.lt_of_lt_of_le Ew.lt (Nat.le_of_eq g81.symm))
  have Ex81_w := Ew.ext E81
  have xa81_ra := A0.ext E81
  have K81 := (Keep.refl h0 []).ext E81
  have Z81 := Nat.le_trans Z0 E81.1
  have O81 := O0.ext E81
  have F81_e0_b81 : Fld Z h81 b81 "java/util/ImmutableCollections$List12" "e0" "Ljava/lang/Object;" .null := D81 (Or.inr (hw _ (List.mem_of_getElem? (i := 264) rfl))) (ty := (.object "java/lang/Object")) (by decide)
  have F81_e1_b81 : Fld Z h81 b81 "java/util/ImmutableCollections$List12" "e1" "Ljava/lang/Object;" .null := D81 (Or.inr (hw _ (List.mem_of_getElem? (i := 266) rfl))) (ty := (.object "java/lang/Object")) (by decide)
  show own_Go p.tables e below K (T81.setTop (mkF m 48 #[.val (.ref ra), .unset] [(.ref b81)]))
  refine own_by (fun t k => XS.dup X81.here hx rfl (hb hby own_d21_48) rfl rfl k) ?_
  show own_Go p.tables e below K (T81.setTop (mkF m 49 #[.val (.ref ra), .unset] [(.ref b81), (.ref b81)]))
  refine own_by (fun t k => XS.aloadN X81.here hx rfl (hb hby own_d21_49) rfl rfl k) ?_
  show own_Go p.tables e below K (T81.setTop (mkF m 50 #[.val (.ref ra), .unset] [(.ref ra), (.ref b81), (.ref b81)]))
  refine own_by (fun t k => XS.iconst X81.here hx rfl (hb hby own_d21_50) k) ?_
  show own_Go p.tables e below K (T81.setTop (mkF m 51 #[.val (.ref ra), .unset] [(.int (0 : Int32)), (.ref ra), (.ref b81), (.ref b81)]))
  obtain ⟨⟨cl82, Ar82, -, S82, M82, H82, -⟩, -⟩ := id xa81_ra
  refine own_by (fun t k => X81.aaload hx (j := (0 : Int32)) (v := (.ref w)) (by rw [e81]; exact Ar82.1) (State.isArrayOf_alike hZ.alike Ar82.2.1) rfl Ar82.2.2 (inb_of S82 ⟨by decide, by decide⟩) (H82 0 (by rw [S82]; decide)) (g := (mkF m 51 #[.val (.ref ra), .unset] [(.int (0 : Int32)), (.ref ra), (.ref b81), (.ref b81)])) rfl rfl (hb hby own_d21_51) t k) ?_
  show own_Go p.tables e below K (T81.setTop (mkF m 52 #[.val (.ref ra), .unset] [(.ref w), (.ref b81), (.ref b81)]))
  refine own_by (fun t k => XS.aloadN X81.here hx rfl (hb hby own_d21_52) rfl rfl k) ?_
  show own_Go p.tables e below K (T81.setTop (mkF m 53 #[.val (.ref ra), .unset] [(.ref ra), (.ref w), (.ref b81), (.ref b81)]))
  refine own_by (fun t k => XS.iconst X81.here hx rfl (hb hby own_d21_53) k) ?_
  show own_Go p.tables e below K (T81.setTop (mkF m 54 #[.val (.ref ra), .unset] [(.int (1 : Int32)), (.ref ra), (.ref w), (.ref b81), (.ref b81)]))
  obtain ⟨⟨cl83, Ar83, -, S83, M83, H83, -⟩, -⟩ := id xa81_ra
  refine own_by (fun t k => X81.aaload hx (j := (1 : Int32)) (v := (.ref w)) (by rw [e81]; exact Ar83.1) (State.isArrayOf_alike hZ.alike Ar83.2.1) rfl Ar83.2.2 (inb_of S83 ⟨by decide, by decide⟩) (H83 1 (by rw [S83]; decide)) (g := (mkF m 54 #[.val (.ref ra), .unset] [(.int (1 : Int32)), (.ref ra), (.ref w), (.ref b81), (.ref b81)])) rfl rfl (hb hby own_d21_54) t k) ?_
  show own_Go p.tables e below K (T81.setTop (mkF m 55 #[.val (.ref ra), .unset] [(.ref w), (.ref w), (.ref b81), (.ref b81)]))
  obtain ⟨_, _, ⟨T84, L84, k84, n84⟩, -, X84, ⟨Lc84, hQ84, l84, y84, z84⟩, st84⟩ := X81.specialBack hx (y := (⟨"java/util/ImmutableCollections$List12", "<init>", "(Ljava/lang/Object;Ljava/lang/Object;)V"⟩ : MethodName)) rfl hown (mvT hZ (hw _ (List.mem_of_getElem? (i := 254) rfl))) (mvT hZ (hw _ (List.mem_of_getElem? (i := 255) rfl))) (mvT hZ (hw _ (List.mem_of_getElem? (i := 257) rfl))) (by decide) (backOf (W := 1) (own_rml2i l Z aw hw [] b81 w w h81 n0 Z81 A81 gn_b81 F81_e0_b81 F81_e1_b81) hZ (hw _ (List.mem_of_getElem? (i := 257) rfl)) (hw _ (List.mem_of_getElem? (i := 253) rfl)) (by decide) (by decide)) (g := (mkF m 55 #[.val (.ref ra), .unset] [(.ref w), (.ref w), (.ref b81), (.ref b81)])) rfl (by rw [hml]; rfl) (Steps.refl _) (a := b81) (argsL := [(.ref w), (.ref w)]) (rest := [(.ref b81)]) (lenOf own_pd8 rfl) rfl (by show 2 * 0 + _ ≤ _; exact Nat.le_of_eq rfl) (hb hby own_d21_55) (fun _ _ => ⟨rfl, e81, (by decide : 1 + 0 ≤ _), (by decide : 2 + 0 ≤ _)⟩)
  dsimp only [Pt.U, Pt.locs, Pt.cells, Pt.slots] at X84 l84 y84 z84 st84 hQ84
  subst l84 y84 z84
  obtain ⟨rfl, N84q, Kp84, Xp84, Fp84⟩ := hQ84
  have N84 := Fr.app N0 N84q
  refine own_by (fun t k => st84.trans k) ?_
  have xa84_ra := xa81_ra.keep Kp84 (ninS ne_ra_b81 nin0)
  have Ex84_w := Ex81_w.keep Kp84
  have Ex84_b81 := A81.keep Kp84
  have K84 := K81.trans Kp84 (allS (Or.inr sz_b81) (all0))
  have Z84 := Nat.le_trans Z81 Kp84.1
  have O84 := O81.keep Kp84 (allS gn_b81 (all0))
  show own_Go p.tables e below K (T84.setTop (mkF m 58 #[.val (.ref ra), .unset] [(.ref b81)]))
  exact own_retA X84 hx hret rfl rfl rfl (hb hby own_d21_58) (hK (some (.ref b81)) X84 (fun h => by rw [hret] at h; cases h) (⟨_, rfl, N84, K84, Or.inr ⟨Xp84, _, Fp84, Or.inr ⟨rfl, Exa.ne Ew (S0.2.2.2.2.2.2.2.1.ext O0.2) (by decide)⟩⟩⟩) (by decide) (by decide))
theorem own_pd9 : parseMethodDescriptor "([Ljava/lang/Object;)Ljava/util/List;" = some ⟨[(.array (.object "java/lang/Object"))], some (.object "java/util/List")⟩ := by decide +kernel
theorem own_d21_59 : decode jdk_40_method_47_code 59 = .ok (.aload_n 0, 1) := by decide +kernel
theorem own_d21_60 : decode jdk_40_method_47_code 60 = .ok (.invokestatic 109, 3) := by decide +kernel
theorem own_d21_63 : decode jdk_40_method_47_code 63 = .ok (.areturn, 1) := by decide +kernel
theorem own_efofa3 (m : MethodId) (ra : Addr) : entryFrame m #[(.ref ra)] 2 = mkF m 0 #[.val (.ref ra), .unset] [] := by first | (simp [entryFrame, mkF, argsToLocals, Value.category]; done) | rfl
def own_Qofa3 (Z : State) (ra : Addr) (w : Addr) (k : ClassId) (dd : Addr) (lz : Addr) (ez : Addr) (em : Addr) (mr : Addr) (h0 : Heap) (n0 : Nat) (v : Option Value) (h : Heap) (L : List Loc) : Prop := ∃ lw : Addr, v = some (.ref lw) ∧ Fr n0 L ∧ Keep h0 h [] ∧ own_SZ Z h lw em 3
set_option maxRecDepth 65536 in
set_option maxHeartbeats 40000000 in
theorem own_rmofa3 (l : Launch) (Z : State) (aw : Array Value) (hw : ∀ d ∈ tables_1, d.before aw Z = true) (ws : List Jvm.Cond) (ra : Addr) (w : Addr) (k : ClassId) (dd : Addr) (lz : Addr) (ez : Addr) (em : Addr) (mr : Addr) (h0 : Heap) (n0 : Nat) (Z0 : n0 ≤ h0.size) (A0 : own_Ar Z h0 ra k 3 [(.ref w), (.ref w), (.ref w)]) (Ew : Exa Z h0 w "com/example/skyroster/skyroster/UsedWindow") (O0 : Old Z n0 h0) (S0 : own_St Z dd lz ez em mr) :
    MetFree l (⟨"java/util/List", "of", "([Ljava/lang/Object;)Ljava/util/List;"⟩ : MethodName) (head1 (Jvm.Cond.code (⟨"java/util/List", "of", "([Ljava/lang/Object;)Ljava/util/List;"⟩ : MethodName) jdk_40_method_47_code 2 (some (.object "java/util/List")) :: ws) ({ frames := 6, cells := 2, slots := 5, locals := 90 } : Room)) (fun a U => a = #[(.ref ra)] ∧ Z.Warmed39 U.vm ∧ U.heap = h0) (fun _ _ _ _ _ => True) (fun _ U o U' => ∃ v L, o = .returned v ∧ own_Qofa3 Z ra w k dd lz ez em mr h0 n0 v U'.heap L ∧ FrameEnd U o U' L ({ frames := 6, cells := 2, slots := 5, locals := 90 } : Room).cells ({ frames := 6, cells := 2, slots := 5, locals := 90 } : Room).slots) := by
  refine own_met (Q := own_Qofa3 Z ra w k dd lz ez em mr h0 n0) (plainFor_of_name own_pn16) ?_
  intro p e s m below meth c s₁ K hx hby hml hown hnm hret hZ X0 e0 hK
  have hown : s.vm.findClass "java/util/List" = some m.cls := hown
  have N0 := Fr.nil n0
  refine own_by (fun t k => castTop (own_efofa3 m ra) k) ?_
  show own_Go p.tables e below K (s₁.setTop (mkF m 0 #[.val (.ref ra), .unset] []))
  refine own_by (fun t k => XS.aloadN X0.here hx rfl (hb hby own_d21_0) rfl rfl k) ?_
  show own_Go p.tables e below K (s₁.setTop (mkF m 1 #[.val (.ref ra), .unset] [(.ref ra)]))
  obtain ⟨⟨cl85, Ar85, -, S85, M85, -⟩, -⟩ := id A0
  refine own_by (fun t k => X0.arraylength hx (by rw [e0]; exact Ar85.1) (State.isArrayOf_alike hZ.alike Ar85.2.1) (g := (mkF m 1 #[.val (.ref ra), .unset] [(.ref ra)])) rfl rfl (hb hby own_d21_1) t k) ?_
  rw [len_of S85 M85]
  show own_Go p.tables e below K (s₁.setTop (mkF m 2 #[.val (.ref ra), .unset] [(.int (3 : Int32))]))
  have hs2_0 : ¬ (3 : Int32) = (0 : Int32) := by decide
  have hs2_1 : ¬ (3 : Int32) = (1 : Int32) := by decide
  have hs2_2 : ¬ (3 : Int32) = (2 : Int32) := by decide
  refine own_by (fun t k => XS.tswOut X0.here hx rfl (pc0 := 2) (pc' := 59) rfl (hb hby own_d21_2) rfl (by have q0 := own_ni hs2_0 (n := 0) (by decide); have q1 := own_ni hs2_1 (n := 1) (by decide); have q2 := own_ni hs2_2 (n := 2) (by decide); omega) (by decide) (by decide) k) ?_
  show own_Go p.tables e below K (s₁.setTop (mkF m 59 #[.val (.ref ra), .unset] []))
  refine own_by (fun t k => XS.aloadN X0.here hx rfl (hb hby own_d21_59) rfl rfl k) ?_
  show own_Go p.tables e below K (s₁.setTop (mkF m 60 #[.val (.ref ra), .unset] [(.ref ra)]))
  obtain ⟨_, _, ⟨T86, L86, k86, n86⟩, -, X86, ⟨Lc86, hQ86, l86, y86, z86⟩, st86⟩ := Jvm.LawKit.callS X0 hx (y := (⟨"java/util/ImmutableCollections", "listFromArray", "([Ljava/lang/Object;)Ljava/util/List;"⟩ : MethodName)) hown (mvT hZ (hw _ (List.mem_of_getElem? (i := 152) rfl))) (mvT hZ (hw _ (List.mem_of_getElem? (i := 153) rfl))) (mvT hZ (hw _ (List.mem_of_getElem? (i := 98) rfl))) (mvT hZ (hw _ (List.mem_of_getElem? (i := 154) rfl))) (by decide) (backOf (W := 0) (own_rmlfa l Z aw hw [] ra w k em h0 n0 Z0 A0 Ew) hZ (hw _ (List.mem_of_getElem? (i := 154) rfl)) (hw _ (List.mem_of_getElem? (i := 98) rfl)) (by decide) (by decide)) (g := (mkF m 60 #[.val (.ref ra), .unset] [(.ref ra)])) rfl (by rw [hml]; rfl) (argsL := [(.ref ra)]) (rest := []) (lenOf own_pd9 rfl) rfl (by show 2 * 0 + _ ≤ _; exact Nat.le_of_eq rfl) (hb hby own_d21_60) (fun _ _ => ⟨rfl, e0, (by decide : 0 + 2 ≤ _), (by decide : 0 + 5 ≤ _)⟩)
  dsimp only [Pt.U, Pt.locs, Pt.cells, Pt.slots] at X86 l86 y86 z86 st86 hQ86
  subst l86 y86 z86
  obtain ⟨lw86, rfl, N86q, Kp86, sp86⟩ := hQ86
  have N86 := Fr.app N0 N86q
  refine own_by st86 ?_
  show own_Go p.tables e below K (T86.setTop (mkF m 63 #[.val (.ref ra), .unset] [(.ref lw86)]))
  exact own_retA X86 hx hret rfl rfl rfl (hb hby own_d21_63) (hK (some (.ref lw86)) X86 (fun h => by rw [hret] at h; cases h) (⟨_, rfl, N86, Kp86, sp86⟩) (by decide) (by decide))
theorem own_pn19 : plainName "java/util/Arrays" = true := by first | (simp [plainName, overriddenIn]; done) | decide +kernel
theorem own_d19_0 : decode jdk_65_method_120_code 0 = .ok (.aload_n 2, 1) := by decide +kernel
theorem own_d19_1 : decode jdk_65_method_120_code 1 = .ok (.ldc 110, 2) := by decide +kernel
theorem own_d19_3 : decode jdk_65_method_120_code 3 = .ok (.if_acmp .ne 10, 3) := by decide +kernel
theorem own_d19_6 : decode jdk_65_method_120_code 6 = .ok (.iload_n 1, 1) := by decide +kernel
theorem own_d19_7 : decode jdk_65_method_120_code 7 = .ok (.anewarray 2, 3) := by decide +kernel
theorem own_d19_10 : decode jdk_65_method_120_code 10 = .ok (.goto 14, 3) := by decide +kernel
theorem own_d19_24 : decode jdk_65_method_120_code 24 = .ok (.astore_n 3, 1) := by decide +kernel
theorem own_d19_25 : decode jdk_65_method_120_code 25 = .ok (.aload_n 0, 1) := by decide +kernel
theorem own_d19_26 : decode jdk_65_method_120_code 26 = .ok (.iconst 0, 1) := by decide +kernel
theorem own_d19_27 : decode jdk_65_method_120_code 27 = .ok (.aload_n 3, 1) := by decide +kernel
theorem own_d19_28 : decode jdk_65_method_120_code 28 = .ok (.iconst 0, 1) := by decide +kernel
theorem own_d19_29 : decode jdk_65_method_120_code 29 = .ok (.aload_n 0, 1) := by decide +kernel
theorem own_d19_30 : decode jdk_65_method_120_code 30 = .ok (.arraylength, 1) := by decide +kernel
theorem own_d19_31 : decode jdk_65_method_120_code 31 = .ok (.iload_n 1, 1) := by decide +kernel
theorem own_d19_32 : decode jdk_65_method_120_code 32 = .ok (.invokestatic 304, 3) := by decide +kernel
theorem own_d19_35 : decode jdk_65_method_120_code 35 = .ok (.invokestatic 150, 3) := by decide +kernel
theorem own_d19_38 : decode jdk_65_method_120_code 38 = .ok (.aload_n 3, 1) := by decide +kernel
theorem own_d19_39 : decode jdk_65_method_120_code 39 = .ok (.areturn, 1) := by decide +kernel
theorem own_efcc1 (m : MethodId) (el : Addr) (mr : Addr) : entryFrame m #[(.ref el), (.int (1 : Int32)), (.ref mr)] 4 = mkF m 0 #[.val (.ref el), .val (.int (1 : Int32)), .val (.ref mr), .unset] [] := by first | (simp [entryFrame, mkF, argsToLocals, Value.category]; done) | rfl
def own_Qcc1 (Z : State) (el : Addr) (mr : Addr) (w : Addr) (k : ClassId) (h0 : Heap) (n0 : Nat) (v : Option Value) (h : Heap) (L : List Loc) : Prop := ∃ (rb : Addr) (kb : ClassId), v = some (.ref rb) ∧ Fr n0 L ∧ Keep h0 h [] ∧ own_Ar Z h rb kb 1 [(.ref w)]
set_option maxRecDepth 65536 in
set_option maxHeartbeats 40000000 in
theorem own_rmcc1 (l : Launch) (Z : State) (aw : Array Value) (hw : ∀ d ∈ tables_1, d.before aw Z = true) (ws : List Jvm.Cond) (el : Addr) (mr : Addr) (w : Addr) (k : ClassId) (h0 : Heap) (n0 : Nat) (Z0 : n0 ≤ h0.size) (A0 : own_Ar Z h0 el k 10 [(.ref w), .null, .null, .null, .null, .null, .null, .null, .null, .null]) (Ew : Exa Z h0 w "com/example/skyroster/skyroster/UsedWindow") (M0 : own_Mi Z mr) :
    MetFree l (⟨"java/util/Arrays", "copyOf", "([Ljava/lang/Object;ILjava/lang/Class;)[Ljava/lang/Object;"⟩ : MethodName) (head1 (Jvm.Cond.code (⟨"java/util/Arrays", "copyOf", "([Ljava/lang/Object;ILjava/lang/Class;)[Ljava/lang/Object;"⟩ : MethodName) jdk_65_method_120_code 4 (some (.array (.object "java/lang/Object"))) :: ws) ({ frames := 1, cells := 1, slots := 1, locals := 24 } : Room)) (fun a U => a = #[(.ref el), (.int (1 : Int32)), (.ref mr)] ∧ Z.Warmed39 U.vm ∧ U.heap = h0) (fun _ _ _ _ _ => True) (fun _ U o U' => ∃ v L, o = .returned v ∧ own_Qcc1 Z el mr w k h0 n0 v U'.heap L ∧ FrameEnd U o U' L ({ frames := 1, cells := 1, slots := 1, locals := 24 } : Room).cells ({ frames := 1, cells := 1, slots := 1, locals := 24 } : Room).slots) := by
  refine own_met (Q := own_Qcc1 Z el mr w k h0 n0) (plainFor_of_name own_pn19) ?_
  intro p e s m below meth c s₁ K hx hby hml hown hnm hret hZ X0 e0 hK
  have hown : s.vm.findClass "java/util/Arrays" = some m.cls := hown
  have N0 := Fr.nil n0
  refine own_by (fun t k => castTop (own_efcc1 m el mr) k) ?_
  show own_Go p.tables e below K (s₁.setTop (mkF m 0 #[.val (.ref el), .val (.int (1 : Int32)), .val (.ref mr), .unset] []))
  refine own_by (fun t k => XS.aloadN X0.here hx rfl (hb hby own_d19_0) rfl rfl k) ?_
  show own_Go p.tables e below K (s₁.setTop (mkF m 1 #[.val (.ref el), .val (.int (1 : Int32)), .val (.ref mr), .unset] [(.ref mr)]))
  obtain ⟨T87, X87, e87, st87⟩ := own_ldcM X0 hx hZ hown (hw _ (List.mem_of_getElem? (i := 140) rfl)) M0 e0 (g := (mkF m 1 #[.val (.ref el), .val (.int (1 : Int32)), .val (.ref mr), .unset] [(.ref mr)])) rfl (hb hby own_d19_1)
  refine own_by st87 ?_
  show own_Go p.tables e below K (T87.setTop (mkF m 3 #[.val (.ref el), .val (.int (1 : Int32)), .val (.ref mr), .unset] [(.ref mr), (.ref mr)]))
  refine own_by (fun t k => acmp X87 hx rfl rfl rfl (pc0 := 3) (pc' := 6) (same := true) rfl (hb hby own_d19_3) rfl (by simp) (by decide) (by decide) k) ?_
  show own_Go p.tables e below K (T87.setTop (mkF m 6 #[.val (.ref el), .val (.int (1 : Int32)), .val (.ref mr), .unset] []))
  refine own_by (fun t k => XS.iloadN X87.here hx rfl (hb hby own_d19_6) rfl k) ?_
  show own_Go p.tables e below K (T87.setTop (mkF m 7 #[.val (.ref el), .val (.int (1 : Int32)), .val (.ref mr), .unset] [(.int (1 : Int32))]))
  obtain ⟨T88, h88, k88, X88, e88, E88, A88, Ea88, Ov88, st88⟩ := newRE X87 hx hZ hown (hw _ (List.mem_of_getElem? (i := 141) rfl)) (hw _ (List.mem_of_getElem? (i := 75) rfl)) e87 (g := (mkF m 7 #[.val (.ref el), .val (.int (1 : Int32)), .val (.ref mr), .unset] [(.int (1 : Int32))])) rfl (hb hby own_d19_7) rfl (by decide) (cap := 1) (by decide) (by decide) (by decide) (by decide) (ad := "[Ljava/lang/Object;") (by decide +kernel)
  obtain ⟨b88, g88⟩ : ∃ z, z = h0.size := ⟨_, rfl⟩
  rw [← g88] at A88 Ea88 st88
  refine own_by st88 ?_
  have gn_b88 : n0 ≤ b88 := Nat.le_trans Z0 (Nat.le_of_eq g88.symm)
  have sz_b88 : h0.size ≤ b88 := Nat.le_trans (Keep.refl h0 []).1 (Nat.le_of_eq g88.symm)
  have ne_w_b88 : w ≠ b88 := Nat.ne_of_lt (Nat.lt_of_lt_of_le Ew.lt (Nat.le_of_eq g88.symm))
  have ne_el_b88 : el ≠ b88 := Nat.ne_of_lt (Nat.lt_of_lt_of_le A0.lt (Nat.le_of_eq g88.symm))
  have Ex88_w := Ew.ext E88
  have xa88_el := A0.ext E88
  have K88 := (Keep.refl h0 []).ext E88
  have Z88 := Nat.le_trans Z0 E88.1
  have xn88 : own_Ar Z h88 b88 k88 (1 : Int32) [.null] := ⟨(Arv.new A88 (by decide)).pad (pad_rep [] .null 1), Ea88, Ov88⟩
  show own_Go p.tables e below K (T88.setTop (mkF m 10 #[.val (.ref el), .val (.int (1 : Int32)), .val (.ref mr), .unset] [(.ref b88)]))
  refine own_by (fun t k => XS.goto X88.here hx rfl (pc0 := 10) (pc' := 24) rfl (hb hby own_d19_10) (by decide) (by decide) k) ?_
  show own_Go p.tables e below K (T88.setTop (mkF m 24 #[.val (.ref el), .val (.int (1 : Int32)), .val (.ref mr), .unset] [(.ref b88)]))
  refine own_by (fun t k => XS.astoreN X88.here hx rfl (hb hby own_d19_24) rfl rfl (l' := #[.val (.ref el), .val (.int (1 : Int32)), .val (.ref mr), .val (.ref b88)]) rfl k) ?_
  show own_Go p.tables e below K (T88.setTop (mkF m 25 #[.val (.ref el), .val (.int (1 : Int32)), .val (.ref mr), .val (.ref b88)] []))
  refine own_by (fun t k => XS.aloadN X88.here hx rfl (hb hby own_d19_25) rfl rfl k) ?_
  show own_Go p.tables e below K (T88.setTop (mkF m 26 #[.val (.ref el), .val (.int (1 : Int32)), .val (.ref mr), .val (.ref b88)] [(.ref el)]))
  refine own_by (fun t k => XS.iconst X88.here hx rfl (hb hby own_d19_26) k) ?_
  show own_Go p.tables e below K (T88.setTop (mkF m 27 #[.val (.ref el), .val (.int (1 : Int32)), .val (.ref mr), .val (.ref b88)] [(.int (0 : Int32)), (.ref el)]))
  refine own_by (fun t k => XS.aloadN X88.here hx rfl (hb hby own_d19_27) rfl rfl k) ?_
  show own_Go p.tables e below K (T88.setTop (mkF m 28 #[.val (.ref el), .val (.int (1 : Int32)), .val (.ref mr), .val (.ref b88)] [(.ref b88), (.int (0 : Int32)), (.ref el)]))
  refine own_by (fun t k => XS.iconst X88.here hx rfl (hb hby own_d19_28) k) ?_
  show own_Go p.tables e below K (T88.setTop (mkF m 29 #[.val (.ref el), .val (.int (1 : Int32)), .val (.ref mr), .val (.ref b88)] [(.int (0 : Int32)), (.ref b88), (.int (0 : Int32)), (.ref el)]))
  refine own_by (fun t k => XS.aloadN X88.here hx rfl (hb hby own_d19_29) rfl rfl k) ?_
  show own_Go p.tables e below K (T88.setTop (mkF m 30 #[.val (.ref el), .val (.int (1 : Int32)), .val (.ref mr), .val (.ref b88)] [(.ref el), (.int (0 : Int32)), (.ref b88), (.int (0 : Int32)), (.ref el)]))
  obtain ⟨⟨cl89, Ar89, -, S89, M89, -⟩, -⟩ := id xa88_el
  refine own_by (fun t k => X88.arraylength hx (by rw [e88]; exact Ar89.1) (State.isArrayOf_alike hZ.alike Ar89.2.1) (g := (mkF m 30 #[.val (.ref el), .val (.int (1 : Int32)), .val (.ref mr), .val (.ref b88)] [(.ref el), (.int (0 : Int32)), (.ref b88), (.int (0 : Int32)), (.ref el)])) rfl rfl (hb hby own_d19_30) t k) ?_
  rw [len_of S89 M89]
  show own_Go p.tables e below K (T88.setTop (mkF m 31 #[.val (.ref el), .val (.int (1 : Int32)), .val (.ref mr), .val (.ref b88)] [(.int (10 : Int32)), (.int (0 : Int32)), (.ref b88), (.int (0 : Int32)), (.ref el)]))
  refine own_by (fun t k => XS.iloadN X88.here hx rfl (hb hby own_d19_31) rfl k) ?_
  show own_Go p.tables e below K (T88.setTop (mkF m 32 #[.val (.ref el), .val (.int (1 : Int32)), .val (.ref mr), .val (.ref b88)] [(.int (1 : Int32)), (.int (10 : Int32)), (.int (0 : Int32)), (.ref b88), (.int (0 : Int32)), (.ref el)]))
  obtain ⟨_, _, ⟨T90, L90, k90, n90⟩, -, X90, ⟨Lc90, hQ90, l90, y90, z90⟩, st90⟩ := Jvm.LawKit.callS X88 hx (y := (⟨"java/lang/Math", "min", "(II)I"⟩ : MethodName)) hown (mvT hZ (hw _ (List.mem_of_getElem? (i := 142) rfl))) (mvT hZ (hw _ (List.mem_of_getElem? (i := 143) rfl))) (mvT hZ (hw _ (List.mem_of_getElem? (i := 72) rfl))) (mvT hZ (hw _ (List.mem_of_getElem? (i := 144) rfl))) (by decide) (backOf (W := 4) (own_rmmnI l Z aw hw [] 10 (1 : Int32) h88 n0 Z88) hZ (hw _ (List.mem_of_getElem? (i := 144) rfl)) (hw _ (List.mem_of_getElem? (i := 72) rfl)) (by decide) (by decide)) (g := (mkF m 32 #[.val (.ref el), .val (.int (1 : Int32)), .val (.ref mr), .val (.ref b88)] [(.int (1 : Int32)), (.int (10 : Int32)), (.int (0 : Int32)), (.ref b88), (.int (0 : Int32)), (.ref el)])) rfl (by rw [hml]; rfl) (argsL := [(.int (10 : Int32)), (.int (1 : Int32))]) (rest := [(.int (0 : Int32)), (.ref b88), (.int (0 : Int32)), (.ref el)]) (lenOf own_pd1 rfl) rfl (by show 2 * 0 + _ ≤ _; exact Nat.le_of_eq rfl) (hb hby own_d19_32) (fun _ _ => ⟨rfl, e88, (by decide : 1 + 0 ≤ _), (by decide : 1 + 0 ≤ _)⟩)
  dsimp only [Pt.U, Pt.locs, Pt.cells, Pt.slots] at X90 l90 y90 z90 st90 hQ90
  subst l90 y90 z90
  obtain ⟨rfl, N90q, e90⟩ := hQ90
  have N90 := Fr.app N0 N90q
  refine own_by st90 ?_
  show own_Go p.tables e below K (T90.setTop (mkF m 35 #[.val (.ref el), .val (.int (1 : Int32)), .val (.ref mr), .val (.ref b88)] [(.int (1 : Int32)), (.int (0 : Int32)), (.ref b88), (.int (0 : Int32)), (.ref el)]))
  obtain ⟨⟨cl91, Ar91, q91, S91, M91, H91, U91⟩, Ea91, Ov91⟩ := id xn88
  obtain ⟨T91, h91, L91, X91, e91, N91, Kc91, V91, st91⟩ := cpA (a0 := aw) (us := [(.ref w)]) X90 hx hZ hown (hw _ (List.mem_of_getElem? (i := 145) rfl)) (hw _ (List.mem_of_getElem? (i := 148) rfl)) (hw _ (List.mem_of_getElem? (i := 146) rfl)) (hw _ (List.mem_of_getElem? (i := 147) rfl)) e90 xa88_el.1 xn88.1 (Or.inr ⟨rfl, rfl, ⟨(Sto.ofV Ar91 q91 Ov91 (Ins.of_exa Ex88_w (hw _ (List.mem_of_getElem? (i := 76) rfl)))), trivial⟩⟩) (by decide) (by decide) (by decide) (by decide) (by decide) rfl (by decide) N90 gn_b88 (g := (mkF m 35 #[.val (.ref el), .val (.int (1 : Int32)), .val (.ref mr), .val (.ref b88)] [(.int (1 : Int32)), (.int (0 : Int32)), (.ref b88), (.int (0 : Int32)), (.ref el)])) rfl (by rw [hml]; rfl) rfl (hb hby own_d19_35) (by decide) (W := 0) (by show 2 * 0 + _ ≤ _; exact Nat.le_of_eq rfl) (by decide)
  refine own_by st91 ?_
  have xc91 : own_Ar Z h91 b88 k88 (1 : Int32) [(.ref w)] := ⟨V91, xn88.2.1.keep Kc91, Ov91⟩
  have xa91_el := xa88_el.keep Kc91 (ninS ne_el_b88 nin0)
  have Ex91_w := Ex88_w.keep Kc91
  have K91 := K88.trans Kc91 (allS (Or.inr sz_b88) (all0))
  have Z91 := Nat.le_trans Z88 Kc91.1
  show own_Go p.tables e below K (T91.setTop (mkF m 38 #[.val (.ref el), .val (.int (1 : Int32)), .val (.ref mr), .val (.ref b88)] []))
  refine own_by (fun t k => XS.aloadN X91.here hx rfl (hb hby own_d19_38) rfl rfl k) ?_
  show own_Go p.tables e below K (T91.setTop (mkF m 39 #[.val (.ref el), .val (.int (1 : Int32)), .val (.ref mr), .val (.ref b88)] [(.ref b88)]))
  exact own_retA X91 hx hret rfl rfl rfl (hb hby own_d19_39) (hK (some (.ref b88)) X91 (fun h => by rw [hret] at h; cases h) (by rw [e91]; exact ⟨_, _, rfl, N91, K91, xc91⟩) (by decide) (by decide))
theorem own_pd10 : parseMethodDescriptor "([Ljava/lang/Object;ILjava/lang/Class;)[Ljava/lang/Object;" = some ⟨[(.array (.object "java/lang/Object")), .int, (.object "java/lang/Class")], some (.array (.object "java/lang/Object"))⟩ := by decide +kernel
theorem own_d18_0 : decode jdk_65_method_119_code 0 = .ok (.aload_n 0, 1) := by decide +kernel
theorem own_d18_1 : decode jdk_65_method_119_code 1 = .ok (.iload_n 1, 1) := by decide +kernel
theorem own_d18_2 : decode jdk_65_method_119_code 2 = .ok (.aload_n 0, 1) := by decide +kernel
theorem own_d18_3 : decode jdk_65_method_119_code 3 = .ok (.invokevirtual 86, 3) := by decide +kernel
theorem own_d18_6 : decode jdk_65_method_119_code 6 = .ok (.invokestatic 300, 3) := by decide +kernel
theorem own_d18_9 : decode jdk_65_method_119_code 9 = .ok (.areturn, 1) := by decide +kernel
theorem own_efcb1 (m : MethodId) (el : Addr) : entryFrame m #[(.ref el), (.int (1 : Int32))] 2 = mkF m 0 #[.val (.ref el), .val (.int (1 : Int32))] [] := by first | (simp [entryFrame, mkF, argsToLocals, Value.category]; done) | rfl
def own_Qcb1 (Z : State) (el : Addr) (mr : Addr) (w : Addr) (k : ClassId) (h0 : Heap) (n0 : Nat) (v : Option Value) (h : Heap) (L : List Loc) : Prop := ∃ (rb : Addr) (kb : ClassId), v = some (.ref rb) ∧ Fr n0 L ∧ Keep h0 h [] ∧ own_Ar Z h rb kb 1 [(.ref w)]
set_option maxRecDepth 65536 in
set_option maxHeartbeats 40000000 in
theorem own_rmcb1 (l : Launch) (Z : State) (aw : Array Value) (hw : ∀ d ∈ tables_1, d.before aw Z = true) (ws : List Jvm.Cond) (el : Addr) (mr : Addr) (w : Addr) (k : ClassId) (h0 : Heap) (n0 : Nat) (Z0 : n0 ≤ h0.size) (A0 : own_Ar Z h0 el k 10 [(.ref w), .null, .null, .null, .null, .null, .null, .null, .null, .null]) (Ew : Exa Z h0 w "com/example/skyroster/skyroster/UsedWindow") (M0 : own_Mi Z mr) :
    MetFree l (⟨"java/util/Arrays", "copyOf", "([Ljava/lang/Object;I)[Ljava/lang/Object;"⟩ : MethodName) (head1 (Jvm.Cond.code (⟨"java/util/Arrays", "copyOf", "([Ljava/lang/Object;I)[Ljava/lang/Object;"⟩ : MethodName) jdk_65_method_119_code 2 (some (.array (.object "java/lang/Object"))) :: ws) ({ frames := 2, cells := 1, slots := 1, locals := 40 } : Room)) (fun a U => a = #[(.ref el), (.int (1 : Int32))] ∧ Z.Warmed39 U.vm ∧ U.heap = h0) (fun _ _ _ _ _ => True) (fun _ U o U' => ∃ v L, o = .returned v ∧ own_Qcb1 Z el mr w k h0 n0 v U'.heap L ∧ FrameEnd U o U' L ({ frames := 2, cells := 1, slots := 1, locals := 40 } : Room).cells ({ frames := 2, cells := 1, slots := 1, locals := 40 } : Room).slots) := by
  refine own_met (Q := own_Qcb1 Z el mr w k h0 n0) (plainFor_of_name own_pn19) ?_
  intro p e s m below meth c s₁ K hx hby hml hown hnm hret hZ X0 e0 hK
  have hown : s.vm.findClass "java/util/Arrays" = some m.cls := hown
  have N0 := Fr.nil n0
  refine own_by (fun t k => castTop (own_efcb1 m el) k) ?_
  show own_Go p.tables e below K (s₁.setTop (mkF m 0 #[.val (.ref el), .val (.int (1 : Int32))] []))
  refine own_by (fun t k => XS.aloadN X0.here hx rfl (hb hby own_d18_0) rfl rfl k) ?_
  show own_Go p.tables e below K (s₁.setTop (mkF m 1 #[.val (.ref el), .val (.int (1 : Int32))] [(.ref el)]))
  refine own_by (fun t k => XS.iloadN X0.here hx rfl (hb hby own_d18_1) rfl k) ?_
  show own_Go p.tables e below K (s₁.setTop (mkF m 2 #[.val (.ref el), .val (.int (1 : Int32))] [(.int (1 : Int32)), (.ref el)]))
  refine own_by (fun t k => XS.aloadN X0.here hx rfl (hb hby own_d18_2) rfl rfl k) ?_
  show own_Go p.tables e below K (s₁.setTop (mkF m 3 #[.val (.ref el), .val (.int (1 : Int32))] [(.ref el), (.int (1 : Int32)), (.ref el)]))
  obtain ⟨T92, X92, e92, st92⟩ := own_gcls X0 hx hZ hown (hw _ (List.mem_of_getElem? (i := 131) rfl)) (hw _ (List.mem_of_getElem? (i := 132) rfl)) (hw _ (List.mem_of_getElem? (i := 104) rfl)) (hw _ (List.mem_of_getElem? (i := 134) rfl)) (hw _ (List.mem_of_getElem? (i := 133) rfl)) (hw _ (List.mem_of_getElem? (i := 135) rfl)) e0 A0.2.1 M0 (g := (mkF m 3 #[.val (.ref el), .val (.int (1 : Int32))] [(.ref el), (.int (1 : Int32)), (.ref el)])) rfl (by rw [hml]; rfl) rfl (hb hby own_d18_3) (by decide) (W := 2) (by show 2 * 0 + _ ≤ _; exact Nat.le_of_eq rfl) (by decide)
  refine own_by st92 ?_
  show own_Go p.tables e below K (T92.setTop (mkF m 6 #[.val (.ref el), .val (.int (1 : Int32))] [(.ref mr), (.int (1 : Int32)), (.ref el)]))
  obtain ⟨_, _, ⟨T93, L93, k93, n93⟩, -, X93, ⟨Lc93, hQ93, l93, y93, z93⟩, st93⟩ := Jvm.LawKit.callS X92 hx (y := (⟨"java/util/Arrays", "copyOf", "([Ljava/lang/Object;ILjava/lang/Class;)[Ljava/lang/Object;"⟩ : MethodName)) hown (mvT hZ (hw _ (List.mem_of_getElem? (i := 137) rfl))) (mvT hZ (hw _ (List.mem_of_getElem? (i := 138) rfl))) (mvT hZ (hw _ (List.mem_of_getElem? (i := 129) rfl))) (mvT hZ (hw _ (List.mem_of_getElem? (i := 139) rfl))) (by decide) (backOf (W := 0) (own_rmcc1 l Z aw hw [] el mr w k h0 n0 Z0 A0 Ew M0) hZ (hw _ (List.mem_of_getElem? (i := 139) rfl)) (hw _ (List.mem_of_getElem? (i := 129) rfl)) (by decide) (by decide)) (g := (mkF m 6 #[.val (.ref el), .val (.int (1 : Int32))] [(.ref mr), (.int (1 : Int32)), (.ref el)])) rfl (by rw [hml]; rfl) (argsL := [(.ref el), (.int (1 : Int32)), (.ref mr)]) (rest := []) (lenOf own_pd10 rfl) rfl (by show 2 * 0 + _ ≤ _; exact Nat.le_of_eq rfl) (hb hby own_d18_6) (fun _ _ => ⟨rfl, e92, (by decide : 0 + 1 ≤ _), (by decide : 0 + 1 ≤ _)⟩)
  dsimp only [Pt.U, Pt.locs, Pt.cells, Pt.slots] at X93 l93 y93 z93 st93 hQ93
  subst l93 y93 z93
  obtain ⟨rb93, kb93, rfl, N93q, r93⟩ := hQ93
  have N93 := Fr.app N0 N93q
  refine own_by st93 ?_
  show own_Go p.tables e below K (T93.setTop (mkF m 9 #[.val (.ref el), .val (.int (1 : Int32))] [(.ref rb93)]))
  exact own_retA X93 hx hret rfl rfl rfl (hb hby own_d18_9) (hK (some (.ref rb93)) X93 (fun h => by rw [hret] at h; cases h) (⟨_, _, rfl, N93, r93⟩) (by decide) (by decide))
theorem own_pd11 : parseMethodDescriptor "([Ljava/lang/Object;I)[Ljava/lang/Object;" = some ⟨[(.array (.object "java/lang/Object")), .int], some (.array (.object "java/lang/Object"))⟩ := by decide +kernel
theorem own_d17_0 : decode jdk_38_method_16_code 0 = .ok (.aload_n 0, 1) := by decide +kernel
theorem own_d17_1 : decode jdk_38_method_16_code 1 = .ok (.getfield 9, 3) := by decide +kernel
theorem own_d17_4 : decode jdk_38_method_16_code 4 = .ok (.aload_n 0, 1) := by decide +kernel
theorem own_d17_5 : decode jdk_38_method_16_code 5 = .ok (.getfield 48, 3) := by decide +kernel
theorem own_d17_8 : decode jdk_38_method_16_code 8 = .ok (.invokestatic 66, 3) := by decide +kernel
theorem own_d17_11 : decode jdk_38_method_16_code 11 = .ok (.areturn, 1) := by decide +kernel
theorem own_efta1 (m : MethodId) (a1 : Addr) : entryFrame m #[(.ref a1)] 1 = mkF m 0 #[.val (.ref a1)] [] := by first | (simp [entryFrame, mkF, argsToLocals, Value.category]; done) | rfl
def own_Qta1 (Z : State) (a1 : Addr) (el : Addr) (mc : Int32) (mr : Addr) (w : Addr) (k : ClassId) (h0 : Heap) (n0 : Nat) (v : Option Value) (h : Heap) (L : List Loc) : Prop := ∃ (rb : Addr) (kb : ClassId), v = some (.ref rb) ∧ Fr n0 L ∧ Keep h0 h [] ∧ own_Ar Z h rb kb 1 [(.ref w)]
set_option maxRecDepth 65536 in
set_option maxHeartbeats 40000000 in
theorem own_rmta1 (l : Launch) (Z : State) (aw : Array Value) (hw : ∀ d ∈ tables_1, d.before aw Z = true) (ws : List Jvm.Cond) (a1 : Addr) (el : Addr) (mc : Int32) (mr : Addr) (w : Addr) (k : ClassId) (h0 : Heap) (n0 : Nat) (Z0 : n0 ≤ h0.size) (B0 : own_AL Z h0 a1 el 1 mc) (A0 : own_Ar Z h0 el k 10 [(.ref w), .null, .null, .null, .null, .null, .null, .null, .null, .null]) (Ew : Exa Z h0 w "com/example/skyroster/skyroster/UsedWindow") (M0 : own_Mi Z mr) :
    MetFree l (⟨"java/util/ArrayList", "toArray", "()[Ljava/lang/Object;"⟩ : MethodName) (head1 (Jvm.Cond.code (⟨"java/util/ArrayList", "toArray", "()[Ljava/lang/Object;"⟩ : MethodName) jdk_38_method_16_code 1 (some (.array (.object "java/lang/Object"))) :: ws) ({ frames := 3, cells := 1, slots := 1, locals := 56 } : Room)) (fun a U => a = #[(.ref a1)] ∧ Z.Warmed39 U.vm ∧ U.heap = h0) (fun _ _ _ _ _ => True) (fun _ U o U' => ∃ v L, o = .returned v ∧ own_Qta1 Z a1 el mc mr w k h0 n0 v U'.heap L ∧ FrameEnd U o U' L ({ frames := 3, cells := 1, slots := 1, locals := 56 } : Room).cells ({ frames := 3, cells := 1, slots := 1, locals := 56 } : Room).slots) := by
  refine own_met (Q := own_Qta1 Z a1 el mc mr w k h0 n0) (plainFor_of_name own_pn4) ?_
  intro p e s m below meth c s₁ K hx hby hml hown hnm hret hZ X0 e0 hK
  have hown : s.vm.findClass "java/util/ArrayList" = some m.cls := hown
  have N0 := Fr.nil n0
  refine own_by (fun t k => castTop (own_efta1 m a1) k) ?_
  show own_Go p.tables e below K (s₁.setTop (mkF m 0 #[.val (.ref a1)] []))
  refine own_by (fun t k => XS.aloadN X0.here hx rfl (hb hby own_d17_0) rfl rfl k) ?_
  show own_Go p.tables e below K (s₁.setTop (mkF m 1 #[.val (.ref a1)] [(.ref a1)]))
  obtain ⟨T94, X94, e94, st94⟩ := getF X0 hx hZ hown (host := "") (Or.inl (hw _ (List.mem_of_getElem? (i := 44) rfl))) Via.refl e0 B0.2.2.1 (g := (mkF m 1 #[.val (.ref a1)] [(.ref a1)])) rfl rfl (hb hby own_d17_1)
  refine own_by st94 ?_
  show own_Go p.tables e below K (T94.setTop (mkF m 4 #[.val (.ref a1)] [(.ref el)]))
  refine own_by (fun t k => XS.aloadN X94.here hx rfl (hb hby own_d17_4) rfl rfl k) ?_
  show own_Go p.tables e below K (T94.setTop (mkF m 5 #[.val (.ref a1)] [(.ref a1), (.ref el)]))
  obtain ⟨T95, X95, e95, st95⟩ := getF X94 hx hZ hown (host := "") (Or.inl (hw _ (List.mem_of_getElem? (i := 53) rfl))) Via.refl e94 B0.2.2.2 (g := (mkF m 5 #[.val (.ref a1)] [(.ref a1), (.ref el)])) rfl rfl (hb hby own_d17_5)
  refine own_by st95 ?_
  show own_Go p.tables e below K (T95.setTop (mkF m 8 #[.val (.ref a1)] [(.int (1 : Int32)), (.ref el)]))
  obtain ⟨_, _, ⟨T96, L96, k96, n96⟩, -, X96, ⟨Lc96, hQ96, l96, y96, z96⟩, st96⟩ := Jvm.LawKit.callS X95 hx (y := (⟨"java/util/Arrays", "copyOf", "([Ljava/lang/Object;I)[Ljava/lang/Object;"⟩ : MethodName)) hown (mvT hZ (hw _ (List.mem_of_getElem? (i := 127) rfl))) (mvT hZ (hw _ (List.mem_of_getElem? (i := 128) rfl))) (mvT hZ (hw _ (List.mem_of_getElem? (i := 129) rfl))) (mvT hZ (hw _ (List.mem_of_getElem? (i := 130) rfl))) (by decide) (backOf (W := 0) (own_rmcb1 l Z aw hw [] el mr w k h0 n0 Z0 A0 Ew M0) hZ (hw _ (List.mem_of_getElem? (i := 130) rfl)) (hw _ (List.mem_of_getElem? (i := 129) rfl)) (by decide) (by decide)) (g := (mkF m 8 #[.val (.ref a1)] [(.int (1 : Int32)), (.ref el)])) rfl (by rw [hml]; rfl) (argsL := [(.ref el), (.int (1 : Int32))]) (rest := []) (lenOf own_pd11 rfl) rfl (by show 2 * 0 + _ ≤ _; exact Nat.le_of_eq rfl) (hb hby own_d17_8) (fun _ _ => ⟨rfl, e95, (by decide : 0 + 1 ≤ _), (by decide : 0 + 1 ≤ _)⟩)
  dsimp only [Pt.U, Pt.locs, Pt.cells, Pt.slots] at X96 l96 y96 z96 st96 hQ96
  subst l96 y96 z96
  obtain ⟨rb96, kb96, rfl, N96q, r96⟩ := hQ96
  have N96 := Fr.app N0 N96q
  refine own_by st96 ?_
  show own_Go p.tables e below K (T96.setTop (mkF m 11 #[.val (.ref a1)] [(.ref rb96)]))
  exact own_retA X96 hx hret rfl rfl rfl (hb hby own_d17_11) (hK (some (.ref rb96)) X96 (fun h => by rw [hret] at h; cases h) (⟨_, _, rfl, N96, r96⟩) (by decide) (by decide))
theorem own_efcc2 (m : MethodId) (el : Addr) (mr : Addr) : entryFrame m #[(.ref el), (.int (2 : Int32)), (.ref mr)] 4 = mkF m 0 #[.val (.ref el), .val (.int (2 : Int32)), .val (.ref mr), .unset] [] := by first | (simp [entryFrame, mkF, argsToLocals, Value.category]; done) | rfl
def own_Qcc2 (Z : State) (el : Addr) (mr : Addr) (w : Addr) (k : ClassId) (h0 : Heap) (n0 : Nat) (v : Option Value) (h : Heap) (L : List Loc) : Prop := ∃ (rb : Addr) (kb : ClassId), v = some (.ref rb) ∧ Fr n0 L ∧ Keep h0 h [] ∧ own_Ar Z h rb kb 2 [(.ref w), (.ref w)]
set_option maxRecDepth 65536 in
set_option maxHeartbeats 40000000 in
theorem own_rmcc2 (l : Launch) (Z : State) (aw : Array Value) (hw : ∀ d ∈ tables_1, d.before aw Z = true) (ws : List Jvm.Cond) (el : Addr) (mr : Addr) (w : Addr) (k : ClassId) (h0 : Heap) (n0 : Nat) (Z0 : n0 ≤ h0.size) (A0 : own_Ar Z h0 el k 10 [(.ref w), (.ref w), .null, .null, .null, .null, .null, .null, .null, .null]) (Ew : Exa Z h0 w "com/example/skyroster/skyroster/UsedWindow") (M0 : own_Mi Z mr) :
    MetFree l (⟨"java/util/Arrays", "copyOf", "([Ljava/lang/Object;ILjava/lang/Class;)[Ljava/lang/Object;"⟩ : MethodName) (head1 (Jvm.Cond.code (⟨"java/util/Arrays", "copyOf", "([Ljava/lang/Object;ILjava/lang/Class;)[Ljava/lang/Object;"⟩ : MethodName) jdk_65_method_120_code 4 (some (.array (.object "java/lang/Object"))) :: ws) ({ frames := 1, cells := 1, slots := 2, locals := 24 } : Room)) (fun a U => a = #[(.ref el), (.int (2 : Int32)), (.ref mr)] ∧ Z.Warmed39 U.vm ∧ U.heap = h0) (fun _ _ _ _ _ => True) (fun _ U o U' => ∃ v L, o = .returned v ∧ own_Qcc2 Z el mr w k h0 n0 v U'.heap L ∧ FrameEnd U o U' L ({ frames := 1, cells := 1, slots := 2, locals := 24 } : Room).cells ({ frames := 1, cells := 1, slots := 2, locals := 24 } : Room).slots) := by
  refine own_met (Q := own_Qcc2 Z el mr w k h0 n0) (plainFor_of_name own_pn19) ?_
  intro p e s m below meth c s₁ K hx hby hml hown hnm hret hZ X0 e0 hK
  have hown : s.vm.findClass "java/util/Arrays" = some m.cls := hown
  have N0 := Fr.nil n0
  refine own_by (fun t k => castTop (own_efcc2 m el mr) k) ?_
  show own_Go p.tables e below K (s₁.setTop (mkF m 0 #[.val (.ref el), .val (.int (2 : Int32)), .val (.ref mr), .unset] []))
  refine own_by (fun t k => XS.aloadN X0.here hx rfl (hb hby own_d19_0) rfl rfl k) ?_
  show own_Go p.tables e below K (s₁.setTop (mkF m 1 #[.val (.ref el), .val (.int (2 : Int32)), .val (.ref mr), .unset] [(.ref mr)]))
  obtain ⟨T97, X97, e97, st97⟩ := own_ldcM X0 hx hZ hown (hw _ (List.mem_of_getElem? (i := 140) rfl)) M0 e0 (g := (mkF m 1 #[.val (.ref el), .val (.int (2 : Int32)), .val (.ref mr), .unset] [(.ref mr)])) rfl (hb hby own_d19_1)
  refine own_by st97 ?_
  show own_Go p.tables e below K (T97.setTop (mkF m 3 #[.val (.ref el), .val (.int (2 : Int32)), .val (.ref mr), .unset] [(.ref mr), (.ref mr)]))
  refine own_by (fun t k => acmp X97 hx rfl rfl rfl (pc0 := 3) (pc' := 6) (same := true) rfl (hb hby own_d19_3) rfl (by simp) (by decide) (by decide) k) ?_
  show own_Go p.tables e below K (T97.setTop (mkF m 6 #[.val (.ref el), .val (.int (2 : Int32)), .val (.ref mr), .unset] []))
  refine own_by (fun t k => XS.iloadN X97.here hx rfl (hb hby own_d19_6) rfl k) ?_
  show own_Go p.tables e below K (T97.setTop (mkF m 7 #[.val (.ref el), .val (.int (2 : Int32)), .val (.ref mr), .unset] [(.int (2 : Int32))]))
  obtain ⟨T98, h98, k98, X98, e98, E98, A98, Ea98, Ov98, st98⟩ := newRE X97 hx hZ hown (hw _ (List.mem_of_getElem? (i := 141) rfl)) (hw _ (List.mem_of_getElem? (i := 75) rfl)) e97 (g := (mkF m 7 #[.val (.ref el), .val (.int (2 : Int32)), .val (.ref mr), .unset] [(.int (2 : Int32))])) rfl (hb hby own_d19_7) rfl (by decide) (cap := 2) (by decide) (by decide) (by decide) (by decide) (ad := "[Ljava/lang/Object;") (by decide +kernel)
  obtain ⟨b98, g98⟩ : ∃ z, z = h0.size := ⟨_, rfl⟩
  rw [← g98] at A98 Ea98 st98
  refine own_by st98 ?_
  have gn_b98 : n0 ≤ b98 := Nat.le_trans Z0 (Nat.le_of_eq g98.symm)
  have sz_b98 : h0.size ≤ b98 := Nat.le_trans (Keep.refl h0 []).1 (Nat.le_of_eq g98.symm)
  have ne_w_b98 : w ≠ b98 := Nat.ne_of_lt (Nat.lt_of_lt_of_le Ew.lt (Nat.le_of_eq g98.symm))
  have ne_el_b98 : el ≠ b98 := Nat.ne_of_lt (Nat.lt_of_lt_of_le A0.lt (Nat.le_of_eq g98.symm))
  have Ex98_w := Ew.ext E98
  have xa98_el := A0.ext E98
  have K98 := (Keep.refl h0 []).ext E98
  have Z98 := Nat.le_trans Z0 E98.1
  have xn98 : own_Ar Z h98 b98 k98 (2 : Int32) [.null, .null] := ⟨(Arv.new A98 (by decide)).pad (pad_rep [] .null 2), Ea98, Ov98⟩
  show own_Go p.tables e below K (T98.setTop (mkF m 10 #[.val (.ref el), .val (.int (2 : Int32)), .val (.ref mr), .unset] [(.ref b98)]))
  refine own_by (fun t k => XS.goto X98.here hx rfl (pc0 := 10) (pc' := 24) rfl (hb hby own_d19_10) (by decide) (by decide) k) ?_
  show own_Go p.tables e below K (T98.setTop (mkF m 24 #[.val (.ref el), .val (.int (2 : Int32)), .val (.ref mr), .unset] [(.ref b98)]))
  refine own_by (fun t k => XS.astoreN X98.here hx rfl (hb hby own_d19_24) rfl rfl (l' := #[.val (.ref el), .val (.int (2 : Int32)), .val (.ref mr), .val (.ref b98)]) rfl k) ?_
  show own_Go p.tables e below K (T98.setTop (mkF m 25 #[.val (.ref el), .val (.int (2 : Int32)), .val (.ref mr), .val (.ref b98)] []))
  refine own_by (fun t k => XS.aloadN X98.here hx rfl (hb hby own_d19_25) rfl rfl k) ?_
  show own_Go p.tables e below K (T98.setTop (mkF m 26 #[.val (.ref el), .val (.int (2 : Int32)), .val (.ref mr), .val (.ref b98)] [(.ref el)]))
  refine own_by (fun t k => XS.iconst X98.here hx rfl (hb hby own_d19_26) k) ?_
  show own_Go p.tables e below K (T98.setTop (mkF m 27 #[.val (.ref el), .val (.int (2 : Int32)), .val (.ref mr), .val (.ref b98)] [(.int (0 : Int32)), (.ref el)]))
  refine own_by (fun t k => XS.aloadN X98.here hx rfl (hb hby own_d19_27) rfl rfl k) ?_
  show own_Go p.tables e below K (T98.setTop (mkF m 28 #[.val (.ref el), .val (.int (2 : Int32)), .val (.ref mr), .val (.ref b98)] [(.ref b98), (.int (0 : Int32)), (.ref el)]))
  refine own_by (fun t k => XS.iconst X98.here hx rfl (hb hby own_d19_28) k) ?_
  show own_Go p.tables e below K (T98.setTop (mkF m 29 #[.val (.ref el), .val (.int (2 : Int32)), .val (.ref mr), .val (.ref b98)] [(.int (0 : Int32)), (.ref b98), (.int (0 : Int32)), (.ref el)]))
  refine own_by (fun t k => XS.aloadN X98.here hx rfl (hb hby own_d19_29) rfl rfl k) ?_
  show own_Go p.tables e below K (T98.setTop (mkF m 30 #[.val (.ref el), .val (.int (2 : Int32)), .val (.ref mr), .val (.ref b98)] [(.ref el), (.int (0 : Int32)), (.ref b98), (.int (0 : Int32)), (.ref el)]))
  obtain ⟨⟨cl99, Ar99, -, S99, M99, -⟩, -⟩ := id xa98_el
  refine own_by (fun t k => X98.arraylength hx (by rw [e98]; exact Ar99.1) (State.isArrayOf_alike hZ.alike Ar99.2.1) (g := (mkF m 30 #[.val (.ref el), .val (.int (2 : Int32)), .val (.ref mr), .val (.ref b98)] [(.ref el), (.int (0 : Int32)), (.ref b98), (.int (0 : Int32)), (.ref el)])) rfl rfl (hb hby own_d19_30) t k) ?_
  rw [len_of S99 M99]
  show own_Go p.tables e below K (T98.setTop (mkF m 31 #[.val (.ref el), .val (.int (2 : Int32)), .val (.ref mr), .val (.ref b98)] [(.int (10 : Int32)), (.int (0 : Int32)), (.ref b98), (.int (0 : Int32)), (.ref el)]))
  refine own_by (fun t k => XS.iloadN X98.here hx rfl (hb hby own_d19_31) rfl k) ?_
  show own_Go p.tables e below K (T98.setTop (mkF m 32 #[.val (.ref el), .val (.int (2 : Int32)), .val (.ref mr), .val (.ref b98)] [(.int (2 : Int32)), (.int (10 : Int32)), (.int (0 : Int32)), (.ref b98), (.int (0 : Int32)), (.ref el)]))
  obtain ⟨_, _, ⟨T100, L100, k100, n100⟩, -, X100, ⟨Lc100, hQ100, l100, y100, z100⟩, st100⟩ := Jvm.LawKit.callS X98 hx (y := (⟨"java/lang/Math", "min", "(II)I"⟩ : MethodName)) hown (mvT hZ (hw _ (List.mem_of_getElem? (i := 142) rfl))) (mvT hZ (hw _ (List.mem_of_getElem? (i := 143) rfl))) (mvT hZ (hw _ (List.mem_of_getElem? (i := 72) rfl))) (mvT hZ (hw _ (List.mem_of_getElem? (i := 144) rfl))) (by decide) (backOf (W := 4) (own_rmmnI l Z aw hw [] 10 (2 : Int32) h98 n0 Z98) hZ (hw _ (List.mem_of_getElem? (i := 144) rfl)) (hw _ (List.mem_of_getElem? (i := 72) rfl)) (by decide) (by decide)) (g := (mkF m 32 #[.val (.ref el), .val (.int (2 : Int32)), .val (.ref mr), .val (.ref b98)] [(.int (2 : Int32)), (.int (10 : Int32)), (.int (0 : Int32)), (.ref b98), (.int (0 : Int32)), (.ref el)])) rfl (by rw [hml]; rfl) (argsL := [(.int (10 : Int32)), (.int (2 : Int32))]) (rest := [(.int (0 : Int32)), (.ref b98), (.int (0 : Int32)), (.ref el)]) (lenOf own_pd1 rfl) rfl (by show 2 * 0 + _ ≤ _; exact Nat.le_of_eq rfl) (hb hby own_d19_32) (fun _ _ => ⟨rfl, e98, (by decide : 1 + 0 ≤ _), (by decide : 2 + 0 ≤ _)⟩)
  dsimp only [Pt.U, Pt.locs, Pt.cells, Pt.slots] at X100 l100 y100 z100 st100 hQ100
  subst l100 y100 z100
  obtain ⟨rfl, N100q, e100⟩ := hQ100
  have N100 := Fr.app N0 N100q
  refine own_by st100 ?_
  show own_Go p.tables e below K (T100.setTop (mkF m 35 #[.val (.ref el), .val (.int (2 : Int32)), .val (.ref mr), .val (.ref b98)] [(.int (2 : Int32)), (.int (0 : Int32)), (.ref b98), (.int (0 : Int32)), (.ref el)]))
  obtain ⟨⟨cl101, Ar101, q101, S101, M101, H101, U101⟩, Ea101, Ov101⟩ := id xn98
  obtain ⟨T101, h101, L101, X101, e101, N101, Kc101, V101, st101⟩ := cpA (a0 := aw) (us := [(.ref w), (.ref w)]) X100 hx hZ hown (hw _ (List.mem_of_getElem? (i := 145) rfl)) (hw _ (List.mem_of_getElem? (i := 148) rfl)) (hw _ (List.mem_of_getElem? (i := 146) rfl)) (hw _ (List.mem_of_getElem? (i := 147) rfl)) e100 xa98_el.1 xn98.1 (Or.inr ⟨rfl, rfl, ⟨(Sto.ofV Ar101 q101 Ov101 (Ins.of_exa Ex98_w (hw _ (List.mem_of_getElem? (i := 76) rfl)))), (Sto.ofV Ar101 q101 Ov101 (Ins.of_exa Ex98_w (hw _ (List.mem_of_getElem? (i := 76) rfl)))), trivial⟩⟩) (by decide) (by decide) (by decide) (by decide) (by decide) rfl (by decide) N100 gn_b98 (g := (mkF m 35 #[.val (.ref el), .val (.int (2 : Int32)), .val (.ref mr), .val (.ref b98)] [(.int (2 : Int32)), (.int (0 : Int32)), (.ref b98), (.int (0 : Int32)), (.ref el)])) rfl (by rw [hml]; rfl) rfl (hb hby own_d19_35) (by decide) (W := 0) (by show 2 * 0 + _ ≤ _; exact Nat.le_of_eq rfl) (by decide)
  refine own_by st101 ?_
  have xc101 : own_Ar Z h101 b98 k98 (2 : Int32) [(.ref w), (.ref w)] := ⟨V101, xn98.2.1.keep Kc101, Ov101⟩
  have xa101_el := xa98_el.keep Kc101 (ninS ne_el_b98 nin0)
  have Ex101_w := Ex98_w.keep Kc101
  have K101 := K98.trans Kc101 (allS (Or.inr sz_b98) (all0))
  have Z101 := Nat.le_trans Z98 Kc101.1
  show own_Go p.tables e below K (T101.setTop (mkF m 38 #[.val (.ref el), .val (.int (2 : Int32)), .val (.ref mr), .val (.ref b98)] []))
  refine own_by (fun t k => XS.aloadN X101.here hx rfl (hb hby own_d19_38) rfl rfl k) ?_
  show own_Go p.tables e below K (T101.setTop (mkF m 39 #[.val (.ref el), .val (.int (2 : Int32)), .val (.ref mr), .val (.ref b98)] [(.ref b98)]))
  exact own_retA X101 hx hret rfl rfl rfl (hb hby own_d19_39) (hK (some (.ref b98)) X101 (fun h => by rw [hret] at h; cases h) (by rw [e101]; exact ⟨_, _, rfl, N101, K101, xc101⟩) (by decide) (by decide))
theorem own_efcb2 (m : MethodId) (el : Addr) : entryFrame m #[(.ref el), (.int (2 : Int32))] 2 = mkF m 0 #[.val (.ref el), .val (.int (2 : Int32))] [] := by first | (simp [entryFrame, mkF, argsToLocals, Value.category]; done) | rfl
def own_Qcb2 (Z : State) (el : Addr) (mr : Addr) (w : Addr) (k : ClassId) (h0 : Heap) (n0 : Nat) (v : Option Value) (h : Heap) (L : List Loc) : Prop := ∃ (rb : Addr) (kb : ClassId), v = some (.ref rb) ∧ Fr n0 L ∧ Keep h0 h [] ∧ own_Ar Z h rb kb 2 [(.ref w), (.ref w)]
set_option maxRecDepth 65536 in
set_option maxHeartbeats 40000000 in
theorem own_rmcb2 (l : Launch) (Z : State) (aw : Array Value) (hw : ∀ d ∈ tables_1, d.before aw Z = true) (ws : List Jvm.Cond) (el : Addr) (mr : Addr) (w : Addr) (k : ClassId) (h0 : Heap) (n0 : Nat) (Z0 : n0 ≤ h0.size) (A0 : own_Ar Z h0 el k 10 [(.ref w), (.ref w), .null, .null, .null, .null, .null, .null, .null, .null]) (Ew : Exa Z h0 w "com/example/skyroster/skyroster/UsedWindow") (M0 : own_Mi Z mr) :
    MetFree l (⟨"java/util/Arrays", "copyOf", "([Ljava/lang/Object;I)[Ljava/lang/Object;"⟩ : MethodName) (head1 (Jvm.Cond.code (⟨"java/util/Arrays", "copyOf", "([Ljava/lang/Object;I)[Ljava/lang/Object;"⟩ : MethodName) jdk_65_method_119_code 2 (some (.array (.object "java/lang/Object"))) :: ws) ({ frames := 2, cells := 1, slots := 2, locals := 40 } : Room)) (fun a U => a = #[(.ref el), (.int (2 : Int32))] ∧ Z.Warmed39 U.vm ∧ U.heap = h0) (fun _ _ _ _ _ => True) (fun _ U o U' => ∃ v L, o = .returned v ∧ own_Qcb2 Z el mr w k h0 n0 v U'.heap L ∧ FrameEnd U o U' L ({ frames := 2, cells := 1, slots := 2, locals := 40 } : Room).cells ({ frames := 2, cells := 1, slots := 2, locals := 40 } : Room).slots) := by
  refine own_met (Q := own_Qcb2 Z el mr w k h0 n0) (plainFor_of_name own_pn19) ?_
  intro p e s m below meth c s₁ K hx hby hml hown hnm hret hZ X0 e0 hK
  have hown : s.vm.findClass "java/util/Arrays" = some m.cls := hown
  have N0 := Fr.nil n0
  refine own_by (fun t k => castTop (own_efcb2 m el) k) ?_
  show own_Go p.tables e below K (s₁.setTop (mkF m 0 #[.val (.ref el), .val (.int (2 : Int32))] []))
  refine own_by (fun t k => XS.aloadN X0.here hx rfl (hb hby own_d18_0) rfl rfl k) ?_
  show own_Go p.tables e below K (s₁.setTop (mkF m 1 #[.val (.ref el), .val (.int (2 : Int32))] [(.ref el)]))
  refine own_by (fun t k => XS.iloadN X0.here hx rfl (hb hby own_d18_1) rfl k) ?_
  show own_Go p.tables e below K (s₁.setTop (mkF m 2 #[.val (.ref el), .val (.int (2 : Int32))] [(.int (2 : Int32)), (.ref el)]))
  refine own_by (fun t k => XS.aloadN X0.here hx rfl (hb hby own_d18_2) rfl rfl k) ?_
  show own_Go p.tables e below K (s₁.setTop (mkF m 3 #[.val (.ref el), .val (.int (2 : Int32))] [(.ref el), (.int (2 : Int32)), (.ref el)]))
  obtain ⟨T102, X102, e102, st102⟩ := own_gcls X0 hx hZ hown (hw _ (List.mem_of_getElem? (i := 131) rfl)) (hw _ (List.mem_of_getElem? (i := 132) rfl)) (hw _ (List.mem_of_getElem? (i := 104) rfl)) (hw _ (List.mem_of_getElem? (i := 134) rfl)) (hw _ (List.mem_of_getElem? (i := 133) rfl)) (hw _ (List.mem_of_getElem? (i := 135) rfl)) e0 A0.2.1 M0 (g := (mkF m 3 #[.val (.ref el), .val (.int (2 : Int32))] [(.ref el), (.int (2 : Int32)), (.ref el)])) rfl (by rw [hml]; rfl) rfl (hb hby own_d18_3) (by decide) (W := 2) (by show 2 * 0 + _ ≤ _; exact Nat.le_of_eq rfl) (by decide)
  refine own_by st102 ?_
  show own_Go p.tables e below K (T102.setTop (mkF m 6 #[.val (.ref el), .val (.int (2 : Int32))] [(.ref mr), (.int (2 : Int32)), (.ref el)]))
  obtain ⟨_, _, ⟨T103, L103, k103, n103⟩, -, X103, ⟨Lc103, hQ103, l103, y103, z103⟩, st103⟩ := Jvm.LawKit.callS X102 hx (y := (⟨"java/util/Arrays", "copyOf", "([Ljava/lang/Object;ILjava/lang/Class;)[Ljava/lang/Object;"⟩ : MethodName)) hown (mvT hZ (hw _ (List.mem_of_getElem? (i := 137) rfl))) (mvT hZ (hw _ (List.mem_of_getElem? (i := 138) rfl))) (mvT hZ (hw _ (List.mem_of_getElem? (i := 129) rfl))) (mvT hZ (hw _ (List.mem_of_getElem? (i := 139) rfl))) (by decide) (backOf (W := 0) (own_rmcc2 l Z aw hw [] el mr w k h0 n0 Z0 A0 Ew M0) hZ (hw _ (List.mem_of_getElem? (i := 139) rfl)) (hw _ (List.mem_of_getElem? (i := 129) rfl)) (by decide) (by decide)) (g := (mkF m 6 #[.val (.ref el), .val (.int (2 : Int32))] [(.ref mr), (.int (2 : Int32)), (.ref el)])) rfl (by rw [hml]; rfl) (argsL := [(.ref el), (.int (2 : Int32)), (.ref mr)]) (rest := []) (lenOf own_pd10 rfl) rfl (by show 2 * 0 + _ ≤ _; exact Nat.le_of_eq rfl) (hb hby own_d18_6) (fun _ _ => ⟨rfl, e102, (by decide : 0 + 1 ≤ _), (by decide : 0 + 2 ≤ _)⟩)
  dsimp only [Pt.U, Pt.locs, Pt.cells, Pt.slots] at X103 l103 y103 z103 st103 hQ103
  subst l103 y103 z103
  obtain ⟨rb103, kb103, rfl, N103q, r103⟩ := hQ103
  have N103 := Fr.app N0 N103q
  refine own_by st103 ?_
  show own_Go p.tables e below K (T103.setTop (mkF m 9 #[.val (.ref el), .val (.int (2 : Int32))] [(.ref rb103)]))
  exact own_retA X103 hx hret rfl rfl rfl (hb hby own_d18_9) (hK (some (.ref rb103)) X103 (fun h => by rw [hret] at h; cases h) (⟨_, _, rfl, N103, r103⟩) (by decide) (by decide))
theorem own_efta2 (m : MethodId) (a1 : Addr) : entryFrame m #[(.ref a1)] 1 = mkF m 0 #[.val (.ref a1)] [] := by first | (simp [entryFrame, mkF, argsToLocals, Value.category]; done) | rfl
def own_Qta2 (Z : State) (a1 : Addr) (el : Addr) (mc : Int32) (mr : Addr) (w : Addr) (k : ClassId) (h0 : Heap) (n0 : Nat) (v : Option Value) (h : Heap) (L : List Loc) : Prop := ∃ (rb : Addr) (kb : ClassId), v = some (.ref rb) ∧ Fr n0 L ∧ Keep h0 h [] ∧ own_Ar Z h rb kb 2 [(.ref w), (.ref w)]
set_option maxRecDepth 65536 in
set_option maxHeartbeats 40000000 in
theorem own_rmta2 (l : Launch) (Z : State) (aw : Array Value) (hw : ∀ d ∈ tables_1, d.before aw Z = true) (ws : List Jvm.Cond) (a1 : Addr) (el : Addr) (mc : Int32) (mr : Addr) (w : Addr) (k : ClassId) (h0 : Heap) (n0 : Nat) (Z0 : n0 ≤ h0.size) (B0 : own_AL Z h0 a1 el 2 mc) (A0 : own_Ar Z h0 el k 10 [(.ref w), (.ref w), .null, .null, .null, .null, .null, .null, .null, .null]) (Ew : Exa Z h0 w "com/example/skyroster/skyroster/UsedWindow") (M0 : own_Mi Z mr) :
    MetFree l (⟨"java/util/ArrayList", "toArray", "()[Ljava/lang/Object;"⟩ : MethodName) (head1 (Jvm.Cond.code (⟨"java/util/ArrayList", "toArray", "()[Ljava/lang/Object;"⟩ : MethodName) jdk_38_method_16_code 1 (some (.array (.object "java/lang/Object"))) :: ws) ({ frames := 3, cells := 1, slots := 2, locals := 56 } : Room)) (fun a U => a = #[(.ref a1)] ∧ Z.Warmed39 U.vm ∧ U.heap = h0) (fun _ _ _ _ _ => True) (fun _ U o U' => ∃ v L, o = .returned v ∧ own_Qta2 Z a1 el mc mr w k h0 n0 v U'.heap L ∧ FrameEnd U o U' L ({ frames := 3, cells := 1, slots := 2, locals := 56 } : Room).cells ({ frames := 3, cells := 1, slots := 2, locals := 56 } : Room).slots) := by
  refine own_met (Q := own_Qta2 Z a1 el mc mr w k h0 n0) (plainFor_of_name own_pn4) ?_
  intro p e s m below meth c s₁ K hx hby hml hown hnm hret hZ X0 e0 hK
  have hown : s.vm.findClass "java/util/ArrayList" = some m.cls := hown
  have N0 := Fr.nil n0
  refine own_by (fun t k => castTop (own_efta2 m a1) k) ?_
  show own_Go p.tables e below K (s₁.setTop (mkF m 0 #[.val (.ref a1)] []))
  refine own_by (fun t k => XS.aloadN X0.here hx rfl (hb hby own_d17_0) rfl rfl k) ?_
  show own_Go p.tables e below K (s₁.setTop (mkF m 1 #[.val (.ref a1)] [(.ref a1)]))
  obtain ⟨T104, X104, e104, st104⟩ := getF X0 hx hZ hown (host := "") (Or.inl (hw _ (List.mem_of_getElem? (i := 44) rfl))) Via.refl e0 B0.2.2.1 (g := (mkF m 1 #[.val (.ref a1)] [(.ref a1)])) rfl rfl (hb hby own_d17_1)
  refine own_by st104 ?_
  show own_Go p.tables e below K (T104.setTop (mkF m 4 #[.val (.ref a1)] [(.ref el)]))
  refine own_by (fun t k => XS.aloadN X104.here hx rfl (hb hby own_d17_4) rfl rfl k) ?_
  show own_Go p.tables e below K (T104.setTop (mkF m 5 #[.val (.ref a1)] [(.ref a1), (.ref el)]))
  obtain ⟨T105, X105, e105, st105⟩ := getF X104 hx hZ hown (host := "") (Or.inl (hw _ (List.mem_of_getElem? (i := 53) rfl))) Via.refl e104 B0.2.2.2 (g := (mkF m 5 #[.val (.ref a1)] [(.ref a1), (.ref el)])) rfl rfl (hb hby own_d17_5)
  refine own_by st105 ?_
  show own_Go p.tables e below K (T105.setTop (mkF m 8 #[.val (.ref a1)] [(.int (2 : Int32)), (.ref el)]))
  obtain ⟨_, _, ⟨T106, L106, k106, n106⟩, -, X106, ⟨Lc106, hQ106, l106, y106, z106⟩, st106⟩ := Jvm.LawKit.callS X105 hx (y := (⟨"java/util/Arrays", "copyOf", "([Ljava/lang/Object;I)[Ljava/lang/Object;"⟩ : MethodName)) hown (mvT hZ (hw _ (List.mem_of_getElem? (i := 127) rfl))) (mvT hZ (hw _ (List.mem_of_getElem? (i := 128) rfl))) (mvT hZ (hw _ (List.mem_of_getElem? (i := 129) rfl))) (mvT hZ (hw _ (List.mem_of_getElem? (i := 130) rfl))) (by decide) (backOf (W := 0) (own_rmcb2 l Z aw hw [] el mr w k h0 n0 Z0 A0 Ew M0) hZ (hw _ (List.mem_of_getElem? (i := 130) rfl)) (hw _ (List.mem_of_getElem? (i := 129) rfl)) (by decide) (by decide)) (g := (mkF m 8 #[.val (.ref a1)] [(.int (2 : Int32)), (.ref el)])) rfl (by rw [hml]; rfl) (argsL := [(.ref el), (.int (2 : Int32))]) (rest := []) (lenOf own_pd11 rfl) rfl (by show 2 * 0 + _ ≤ _; exact Nat.le_of_eq rfl) (hb hby own_d17_8) (fun _ _ => ⟨rfl, e105, (by decide : 0 + 1 ≤ _), (by decide : 0 + 2 ≤ _)⟩)
  dsimp only [Pt.U, Pt.locs, Pt.cells, Pt.slots] at X106 l106 y106 z106 st106 hQ106
  subst l106 y106 z106
  obtain ⟨rb106, kb106, rfl, N106q, r106⟩ := hQ106
  have N106 := Fr.app N0 N106q
  refine own_by st106 ?_
  show own_Go p.tables e below K (T106.setTop (mkF m 11 #[.val (.ref a1)] [(.ref rb106)]))
  exact own_retA X106 hx hret rfl rfl rfl (hb hby own_d17_11) (hK (some (.ref rb106)) X106 (fun h => by rw [hret] at h; cases h) (⟨_, _, rfl, N106, r106⟩) (by decide) (by decide))
theorem own_efcc3 (m : MethodId) (el : Addr) (mr : Addr) : entryFrame m #[(.ref el), (.int (3 : Int32)), (.ref mr)] 4 = mkF m 0 #[.val (.ref el), .val (.int (3 : Int32)), .val (.ref mr), .unset] [] := by first | (simp [entryFrame, mkF, argsToLocals, Value.category]; done) | rfl
def own_Qcc3 (Z : State) (el : Addr) (mr : Addr) (w : Addr) (k : ClassId) (h0 : Heap) (n0 : Nat) (v : Option Value) (h : Heap) (L : List Loc) : Prop := ∃ (rb : Addr) (kb : ClassId), v = some (.ref rb) ∧ Fr n0 L ∧ Keep h0 h [] ∧ own_Ar Z h rb kb 3 [(.ref w), (.ref w), (.ref w)]
set_option maxRecDepth 65536 in
set_option maxHeartbeats 40000000 in
theorem own_rmcc3 (l : Launch) (Z : State) (aw : Array Value) (hw : ∀ d ∈ tables_1, d.before aw Z = true) (ws : List Jvm.Cond) (el : Addr) (mr : Addr) (w : Addr) (k : ClassId) (h0 : Heap) (n0 : Nat) (Z0 : n0 ≤ h0.size) (A0 : own_Ar Z h0 el k 10 [(.ref w), (.ref w), (.ref w), .null, .null, .null, .null, .null, .null, .null]) (Ew : Exa Z h0 w "com/example/skyroster/skyroster/UsedWindow") (M0 : own_Mi Z mr) :
    MetFree l (⟨"java/util/Arrays", "copyOf", "([Ljava/lang/Object;ILjava/lang/Class;)[Ljava/lang/Object;"⟩ : MethodName) (head1 (Jvm.Cond.code (⟨"java/util/Arrays", "copyOf", "([Ljava/lang/Object;ILjava/lang/Class;)[Ljava/lang/Object;"⟩ : MethodName) jdk_65_method_120_code 4 (some (.array (.object "java/lang/Object"))) :: ws) ({ frames := 1, cells := 1, slots := 3, locals := 24 } : Room)) (fun a U => a = #[(.ref el), (.int (3 : Int32)), (.ref mr)] ∧ Z.Warmed39 U.vm ∧ U.heap = h0) (fun _ _ _ _ _ => True) (fun _ U o U' => ∃ v L, o = .returned v ∧ own_Qcc3 Z el mr w k h0 n0 v U'.heap L ∧ FrameEnd U o U' L ({ frames := 1, cells := 1, slots := 3, locals := 24 } : Room).cells ({ frames := 1, cells := 1, slots := 3, locals := 24 } : Room).slots) := by
  refine own_met (Q := own_Qcc3 Z el mr w k h0 n0) (plainFor_of_name own_pn19) ?_
  intro p e s m below meth c s₁ K hx hby hml hown hnm hret hZ X0 e0 hK
  have hown : s.vm.findClass "java/util/Arrays" = some m.cls := hown
  have N0 := Fr.nil n0
  refine own_by (fun t k => castTop (own_efcc3 m el mr) k) ?_
  show own_Go p.tables e below K (s₁.setTop (mkF m 0 #[.val (.ref el), .val (.int (3 : Int32)), .val (.ref mr), .unset] []))
  refine own_by (fun t k => XS.aloadN X0.here hx rfl (hb hby own_d19_0) rfl rfl k) ?_
  show own_Go p.tables e below K (s₁.setTop (mkF m 1 #[.val (.ref el), .val (.int (3 : Int32)), .val (.ref mr), .unset] [(.ref mr)]))
  obtain ⟨T107, X107, e107, st107⟩ := own_ldcM X0 hx hZ hown (hw _ (List.mem_of_getElem? (i := 140) rfl)) M0 e0 (g := (mkF m 1 #[.val (.ref el), .val (.int (3 : Int32)), .val (.ref mr), .unset] [(.ref mr)])) rfl (hb hby own_d19_1)
  refine own_by st107 ?_
  show own_Go p.tables e below K (T107.setTop (mkF m 3 #[.val (.ref el), .val (.int (3 : Int32)), .val (.ref mr), .unset] [(.ref mr), (.ref mr)]))
  refine own_by (fun t k => acmp X107 hx rfl rfl rfl (pc0 := 3) (pc' := 6) (same := true) rfl (hb hby own_d19_3) rfl (by simp) (by decide) (by decide) k) ?_
  show own_Go p.tables e below K (T107.setTop (mkF m 6 #[.val (.ref el), .val (.int (3 : Int32)), .val (.ref mr), .unset] []))
  refine own_by (fun t k => XS.iloadN X107.here hx rfl (hb hby own_d19_6) rfl k) ?_
  show own_Go p.tables e below K (T107.setTop (mkF m 7 #[.val (.ref el), .val (.int (3 : Int32)), .val (.ref mr), .unset] [(.int (3 : Int32))]))
  obtain ⟨T108, h108, k108, X108, e108, E108, A108, Ea108, Ov108, st108⟩ := newRE X107 hx hZ hown (hw _ (List.mem_of_getElem? (i := 141) rfl)) (hw _ (List.mem_of_getElem? (i := 75) rfl)) e107 (g := (mkF m 7 #[.val (.ref el), .val (.int (3 : Int32)), .val (.ref mr), .unset] [(.int (3 : Int32))])) rfl (hb hby own_d19_7) rfl (by decide) (cap := 3) (by decide) (by decide) (by decide) (by decide) (ad := "[Ljava/lang/Object;") (by decide +kernel)
  obtain ⟨b108, g108⟩ : ∃ z, z = h0.size := ⟨_, rfl⟩
  rw [← g108] at A108 Ea108 st108
  refine own_by st108 ?_
  have gn_b108 : n0 ≤ b108 := Nat.le_trans Z0 (Nat.le_of_eq g108.symm)
  have sz_b108 : h0.size ≤ b108 := Nat.le_trans (Keep.refl h0 []).1 (Nat.le_of_eq g108.symm)
  have ne_w_b108 : w ≠ b108 := Nat.ne_of_lt (Nat.lt_of_lt_of_le Ew.lt (Nat.le_of_eq g108.symm))
  have ne_el_b108 : el ≠ b108 := Nat.ne_of_lt (Nat.lt_of_lt_of_le A0.lt (Nat.le_of_eq g108.symm))
  have Ex108_w := Ew.ext E108
  have xa108_el := A0.ext E108
  have K108 := (Keep.refl h0 []).ext E108
  have Z108 := Nat.le_trans Z0 E108.1
  have xn108 : own_Ar Z h108 b108 k108 (3 : Int32) [.null, .null, .null] := ⟨(Arv.new A108 (by decide)).pad (pad_rep [] .null 3), Ea108, Ov108⟩
  show own_Go p.tables e below K (T108.setTop (mkF m 10 #[.val (.ref el), .val (.int (3 : Int32)), .val (.ref mr), .unset] [(.ref b108)]))
  refine own_by (fun t k => XS.goto X108.here hx rfl (pc0 := 10) (pc' := 24) rfl (hb hby own_d19_10) (by decide) (by decide) k) ?_
  show own_Go p.tables e below K (T108.setTop (mkF m 24 #[.val (.ref el), .val (.int (3 : Int32)), .val (.ref mr), .unset] [(.ref b108)]))
  refine own_by (fun t k => XS.astoreN X108.here hx rfl (hb hby own_d19_24) rfl rfl (l' := #[.val (.ref el), .val (.int (3 : Int32)), .val (.ref mr), .val (.ref b108)]) rfl k) ?_
  show own_Go p.tables e below K (T108.setTop (mkF m 25 #[.val (.ref el), .val (.int (3 : Int32)), .val (.ref mr), .val (.ref b108)] []))
  refine own_by (fun t k => XS.aloadN X108.here hx rfl (hb hby own_d19_25) rfl rfl k) ?_
  show own_Go p.tables e below K (T108.setTop (mkF m 26 #[.val (.ref el), .val (.int (3 : Int32)), .val (.ref mr), .val (.ref b108)] [(.ref el)]))
  refine own_by (fun t k => XS.iconst X108.here hx rfl (hb hby own_d19_26) k) ?_
  show own_Go p.tables e below K (T108.setTop (mkF m 27 #[.val (.ref el), .val (.int (3 : Int32)), .val (.ref mr), .val (.ref b108)] [(.int (0 : Int32)), (.ref el)]))
  refine own_by (fun t k => XS.aloadN X108.here hx rfl (hb hby own_d19_27) rfl rfl k) ?_
  show own_Go p.tables e below K (T108.setTop (mkF m 28 #[.val (.ref el), .val (.int (3 : Int32)), .val (.ref mr), .val (.ref b108)] [(.ref b108), (.int (0 : Int32)), (.ref el)]))
  refine own_by (fun t k => XS.iconst X108.here hx rfl (hb hby own_d19_28) k) ?_
  show own_Go p.tables e below K (T108.setTop (mkF m 29 #[.val (.ref el), .val (.int (3 : Int32)), .val (.ref mr), .val (.ref b108)] [(.int (0 : Int32)), (.ref b108), (.int (0 : Int32)), (.ref el)]))
  refine own_by (fun t k => XS.aloadN X108.here hx rfl (hb hby own_d19_29) rfl rfl k) ?_
  show own_Go p.tables e below K (T108.setTop (mkF m 30 #[.val (.ref el), .val (.int (3 : Int32)), .val (.ref mr), .val (.ref b108)] [(.ref el), (.int (0 : Int32)), (.ref b108), (.int (0 : Int32)), (.ref el)]))
  obtain ⟨⟨cl109, Ar109, -, S109, M109, -⟩, -⟩ := id xa108_el
  refine own_by (fun t k => X108.arraylength hx (by rw [e108]; exact Ar109.1) (State.isArrayOf_alike hZ.alike Ar109.2.1) (g := (mkF m 30 #[.val (.ref el), .val (.int (3 : Int32)), .val (.ref mr), .val (.ref b108)] [(.ref el), (.int (0 : Int32)), (.ref b108), (.int (0 : Int32)), (.ref el)])) rfl rfl (hb hby own_d19_30) t k) ?_
  rw [len_of S109 M109]
  show own_Go p.tables e below K (T108.setTop (mkF m 31 #[.val (.ref el), .val (.int (3 : Int32)), .val (.ref mr), .val (.ref b108)] [(.int (10 : Int32)), (.int (0 : Int32)), (.ref b108), (.int (0 : Int32)), (.ref el)]))
  refine own_by (fun t k => XS.iloadN X108.here hx rfl (hb hby own_d19_31) rfl k) ?_
  show own_Go p.tables e below K (T108.setTop (mkF m 32 #[.val (.ref el), .val (.int (3 : Int32)), .val (.ref mr), .val (.ref b108)] [(.int (3 : Int32)), (.int (10 : Int32)), (.int (0 : Int32)), (.ref b108), (.int (0 : Int32)), (.ref el)]))
  obtain ⟨_, _, ⟨T110, L110, k110, n110⟩, -, X110, ⟨Lc110, hQ110, l110, y110, z110⟩, st110⟩ := Jvm.LawKit.callS X108 hx (y := (⟨"java/lang/Math", "min", "(II)I"⟩ : MethodName)) hown (mvT hZ (hw _ (List.mem_of_getElem? (i := 142) rfl))) (mvT hZ (hw _ (List.mem_of_getElem? (i := 143) rfl))) (mvT hZ (hw _ (List.mem_of_getElem? (i := 72) rfl))) (mvT hZ (hw _ (List.mem_of_getElem? (i := 144) rfl))) (by decide) (backOf (W := 4) (own_rmmnI l Z aw hw [] 10 (3 : Int32) h108 n0 Z108) hZ (hw _ (List.mem_of_getElem? (i := 144) rfl)) (hw _ (List.mem_of_getElem? (i := 72) rfl)) (by decide) (by decide)) (g := (mkF m 32 #[.val (.ref el), .val (.int (3 : Int32)), .val (.ref mr), .val (.ref b108)] [(.int (3 : Int32)), (.int (10 : Int32)), (.int (0 : Int32)), (.ref b108), (.int (0 : Int32)), (.ref el)])) rfl (by rw [hml]; rfl) (argsL := [(.int (10 : Int32)), (.int (3 : Int32))]) (rest := [(.int (0 : Int32)), (.ref b108), (.int (0 : Int32)), (.ref el)]) (lenOf own_pd1 rfl) rfl (by show 2 * 0 + _ ≤ _; exact Nat.le_of_eq rfl) (hb hby own_d19_32) (fun _ _ => ⟨rfl, e108, (by decide : 1 + 0 ≤ _), (by decide : 3 + 0 ≤ _)⟩)
  dsimp only [Pt.U, Pt.locs, Pt.cells, Pt.slots] at X110 l110 y110 z110 st110 hQ110
  subst l110 y110 z110
  obtain ⟨rfl, N110q, e110⟩ := hQ110
  have N110 := Fr.app N0 N110q
  refine own_by st110 ?_
  show own_Go p.tables e below K (T110.setTop (mkF m 35 #[.val (.ref el), .val (.int (3 : Int32)), .val (.ref mr), .val (.ref b108)] [(.int (3 : Int32)), (.int (0 : Int32)), (.ref b108), (.int (0 : Int32)), (.ref el)]))
  obtain ⟨⟨cl111, Ar111, q111, S111, M111, H111, U111⟩, Ea111, Ov111⟩ := id xn108
  obtain ⟨T111, h111, L111, X111, e111, N111, Kc111, V111, st111⟩ := cpA (a0 := aw) (us := [(.ref w), (.ref w), (.ref w)]) X110 hx hZ hown (hw _ (List.mem_of_getElem? (i := 145) rfl)) (hw _ (List.mem_of_getElem? (i := 148) rfl)) (hw _ (List.mem_of_getElem? (i := 146) rfl)) (hw _ (List.mem_of_getElem? (i := 147) rfl)) e110 xa108_el.1 xn108.1 (Or.inr ⟨rfl, rfl, ⟨(Sto.ofV Ar111 q111 Ov111 (Ins.of_exa Ex108_w (hw _ (List.mem_of_getElem? (i := 76) rfl)))), (Sto.ofV Ar111 q111 Ov111 (Ins.of_exa Ex108_w (hw _ (List.mem_of_getElem? (i := 76) rfl)))), (Sto.ofV Ar111 q111 Ov111 (Ins.of_exa Ex108_w (hw _ (List.mem_of_getElem? (i := 76) rfl)))), trivial⟩⟩) (by decide) (by decide) (by decide) (by decide) (by decide) rfl (by decide) N110 gn_b108 (g := (mkF m 35 #[.val (.ref el), .val (.int (3 : Int32)), .val (.ref mr), .val (.ref b108)] [(.int (3 : Int32)), (.int (0 : Int32)), (.ref b108), (.int (0 : Int32)), (.ref el)])) rfl (by rw [hml]; rfl) rfl (hb hby own_d19_35) (by decide) (W := 0) (by show 2 * 0 + _ ≤ _; exact Nat.le_of_eq rfl) (by decide)
  refine own_by st111 ?_
  have xc111 : own_Ar Z h111 b108 k108 (3 : Int32) [(.ref w), (.ref w), (.ref w)] := ⟨V111, xn108.2.1.keep Kc111, Ov111⟩
  have xa111_el := xa108_el.keep Kc111 (ninS ne_el_b108 nin0)
  have Ex111_w := Ex108_w.keep Kc111
  have K111 := K108.trans Kc111 (allS (Or.inr sz_b108) (all0))
  have Z111 := Nat.le_trans Z108 Kc111.1
  show own_Go p.tables e below K (T111.setTop (mkF m 38 #[.val (.ref el), .val (.int (3 : Int32)), .val (.ref mr), .val (.ref b108)] []))
  refine own_by (fun t k => XS.aloadN X111.here hx rfl (hb hby own_d19_38) rfl rfl k) ?_
  show own_Go p.tables e below K (T111.setTop (mkF m 39 #[.val (.ref el), .val (.int (3 : Int32)), .val (.ref mr), .val (.ref b108)] [(.ref b108)]))
  exact own_retA X111 hx hret rfl rfl rfl (hb hby own_d19_39) (hK (some (.ref b108)) X111 (fun h => by rw [hret] at h; cases h) (by rw [e111]; exact ⟨_, _, rfl, N111, K111, xc111⟩) (by decide) (by decide))
theorem own_efcb3 (m : MethodId) (el : Addr) : entryFrame m #[(.ref el), (.int (3 : Int32))] 2 = mkF m 0 #[.val (.ref el), .val (.int (3 : Int32))] [] := by first | (simp [entryFrame, mkF, argsToLocals, Value.category]; done) | rfl
def own_Qcb3 (Z : State) (el : Addr) (mr : Addr) (w : Addr) (k : ClassId) (h0 : Heap) (n0 : Nat) (v : Option Value) (h : Heap) (L : List Loc) : Prop := ∃ (rb : Addr) (kb : ClassId), v = some (.ref rb) ∧ Fr n0 L ∧ Keep h0 h [] ∧ own_Ar Z h rb kb 3 [(.ref w), (.ref w), (.ref w)]
set_option maxRecDepth 65536 in
set_option maxHeartbeats 40000000 in
theorem own_rmcb3 (l : Launch) (Z : State) (aw : Array Value) (hw : ∀ d ∈ tables_1, d.before aw Z = true) (ws : List Jvm.Cond) (el : Addr) (mr : Addr) (w : Addr) (k : ClassId) (h0 : Heap) (n0 : Nat) (Z0 : n0 ≤ h0.size) (A0 : own_Ar Z h0 el k 10 [(.ref w), (.ref w), (.ref w), .null, .null, .null, .null, .null, .null, .null]) (Ew : Exa Z h0 w "com/example/skyroster/skyroster/UsedWindow") (M0 : own_Mi Z mr) :
    MetFree l (⟨"java/util/Arrays", "copyOf", "([Ljava/lang/Object;I)[Ljava/lang/Object;"⟩ : MethodName) (head1 (Jvm.Cond.code (⟨"java/util/Arrays", "copyOf", "([Ljava/lang/Object;I)[Ljava/lang/Object;"⟩ : MethodName) jdk_65_method_119_code 2 (some (.array (.object "java/lang/Object"))) :: ws) ({ frames := 2, cells := 1, slots := 3, locals := 40 } : Room)) (fun a U => a = #[(.ref el), (.int (3 : Int32))] ∧ Z.Warmed39 U.vm ∧ U.heap = h0) (fun _ _ _ _ _ => True) (fun _ U o U' => ∃ v L, o = .returned v ∧ own_Qcb3 Z el mr w k h0 n0 v U'.heap L ∧ FrameEnd U o U' L ({ frames := 2, cells := 1, slots := 3, locals := 40 } : Room).cells ({ frames := 2, cells := 1, slots := 3, locals := 40 } : Room).slots) := by
  refine own_met (Q := own_Qcb3 Z el mr w k h0 n0) (plainFor_of_name own_pn19) ?_
  intro p e s m below meth c s₁ K hx hby hml hown hnm hret hZ X0 e0 hK
  have hown : s.vm.findClass "java/util/Arrays" = some m.cls := hown
  have N0 := Fr.nil n0
  refine own_by (fun t k => castTop (own_efcb3 m el) k) ?_
  show own_Go p.tables e below K (s₁.setTop (mkF m 0 #[.val (.ref el), .val (.int (3 : Int32))] []))
  refine own_by (fun t k => XS.aloadN X0.here hx rfl (hb hby own_d18_0) rfl rfl k) ?_
  show own_Go p.tables e below K (s₁.setTop (mkF m 1 #[.val (.ref el), .val (.int (3 : Int32))] [(.ref el)]))
  refine own_by (fun t k => XS.iloadN X0.here hx rfl (hb hby own_d18_1) rfl k) ?_
  show own_Go p.tables e below K (s₁.setTop (mkF m 2 #[.val (.ref el), .val (.int (3 : Int32))] [(.int (3 : Int32)), (.ref el)]))
  refine own_by (fun t k => XS.aloadN X0.here hx rfl (hb hby own_d18_2) rfl rfl k) ?_
  show own_Go p.tables e below K (s₁.setTop (mkF m 3 #[.val (.ref el), .val (.int (3 : Int32))] [(.ref el), (.int (3 : Int32)), (.ref el)]))
  obtain ⟨T112, X112, e112, st112⟩ := own_gcls X0 hx hZ hown (hw _ (List.mem_of_getElem? (i := 131) rfl)) (hw _ (List.mem_of_getElem? (i := 132) rfl)) (hw _ (List.mem_of_getElem? (i := 104) rfl)) (hw _ (List.mem_of_getElem? (i := 134) rfl)) (hw _ (List.mem_of_getElem? (i := 133) rfl)) (hw _ (List.mem_of_getElem? (i := 135) rfl)) e0 A0.2.1 M0 (g := (mkF m 3 #[.val (.ref el), .val (.int (3 : Int32))] [(.ref el), (.int (3 : Int32)), (.ref el)])) rfl (by rw [hml]; rfl) rfl (hb hby own_d18_3) (by decide) (W := 2) (by show 2 * 0 + _ ≤ _; exact Nat.le_of_eq rfl) (by decide)
  refine own_by st112 ?_
  show own_Go p.tables e below K (T112.setTop (mkF m 6 #[.val (.ref el), .val (.int (3 : Int32))] [(.ref mr), (.int (3 : Int32)), (.ref el)]))
  obtain ⟨_, _, ⟨T113, L113, k113, n113⟩, -, X113, ⟨Lc113, hQ113, l113, y113, z113⟩, st113⟩ := Jvm.LawKit.callS X112 hx (y := (⟨"java/util/Arrays", "copyOf", "([Ljava/lang/Object;ILjava/lang/Class;)[Ljava/lang/Object;"⟩ : MethodName)) hown (mvT hZ (hw _ (List.mem_of_getElem? (i := 137) rfl))) (mvT hZ (hw _ (List.mem_of_getElem? (i := 138) rfl))) (mvT hZ (hw _ (List.mem_of_getElem? (i := 129) rfl))) (mvT hZ (hw _ (List.mem_of_getElem? (i := 139) rfl))) (by decide) (backOf (W := 0) (own_rmcc3 l Z aw hw [] el mr w k h0 n0 Z0 A0 Ew M0) hZ (hw _ (List.mem_of_getElem? (i := 139) rfl)) (hw _ (List.mem_of_getElem? (i := 129) rfl)) (by decide) (by decide)) (g := (mkF m 6 #[.val (.ref el), .val (.int (3 : Int32))] [(.ref mr), (.int (3 : Int32)), (.ref el)])) rfl (by rw [hml]; rfl) (argsL := [(.ref el), (.int (3 : Int32)), (.ref mr)]) (rest := []) (lenOf own_pd10 rfl) rfl (by show 2 * 0 + _ ≤ _; exact Nat.le_of_eq rfl) (hb hby own_d18_6) (fun _ _ => ⟨rfl, e112, (by decide : 0 + 1 ≤ _), (by decide : 0 + 3 ≤ _)⟩)
  dsimp only [Pt.U, Pt.locs, Pt.cells, Pt.slots] at X113 l113 y113 z113 st113 hQ113
  subst l113 y113 z113
  obtain ⟨rb113, kb113, rfl, N113q, r113⟩ := hQ113
  have N113 := Fr.app N0 N113q
  refine own_by st113 ?_
  show own_Go p.tables e below K (T113.setTop (mkF m 9 #[.val (.ref el), .val (.int (3 : Int32))] [(.ref rb113)]))
  exact own_retA X113 hx hret rfl rfl rfl (hb hby own_d18_9) (hK (some (.ref rb113)) X113 (fun h => by rw [hret] at h; cases h) (⟨_, _, rfl, N113, r113⟩) (by decide) (by decide))
theorem own_efta3 (m : MethodId) (a1 : Addr) : entryFrame m #[(.ref a1)] 1 = mkF m 0 #[.val (.ref a1)] [] := by first | (simp [entryFrame, mkF, argsToLocals, Value.category]; done) | rfl
def own_Qta3 (Z : State) (a1 : Addr) (el : Addr) (mc : Int32) (mr : Addr) (w : Addr) (k : ClassId) (h0 : Heap) (n0 : Nat) (v : Option Value) (h : Heap) (L : List Loc) : Prop := ∃ (rb : Addr) (kb : ClassId), v = some (.ref rb) ∧ Fr n0 L ∧ Keep h0 h [] ∧ own_Ar Z h rb kb 3 [(.ref w), (.ref w), (.ref w)]
set_option maxRecDepth 65536 in
set_option maxHeartbeats 40000000 in
theorem own_rmta3 (l : Launch) (Z : State) (aw : Array Value) (hw : ∀ d ∈ tables_1, d.before aw Z = true) (ws : List Jvm.Cond) (a1 : Addr) (el : Addr) (mc : Int32) (mr : Addr) (w : Addr) (k : ClassId) (h0 : Heap) (n0 : Nat) (Z0 : n0 ≤ h0.size) (B0 : own_AL Z h0 a1 el 3 mc) (A0 : own_Ar Z h0 el k 10 [(.ref w), (.ref w), (.ref w), .null, .null, .null, .null, .null, .null, .null]) (Ew : Exa Z h0 w "com/example/skyroster/skyroster/UsedWindow") (M0 : own_Mi Z mr) :
    MetFree l (⟨"java/util/ArrayList", "toArray", "()[Ljava/lang/Object;"⟩ : MethodName) (head1 (Jvm.Cond.code (⟨"java/util/ArrayList", "toArray", "()[Ljava/lang/Object;"⟩ : MethodName) jdk_38_method_16_code 1 (some (.array (.object "java/lang/Object"))) :: ws) ({ frames := 3, cells := 1, slots := 3, locals := 56 } : Room)) (fun a U => a = #[(.ref a1)] ∧ Z.Warmed39 U.vm ∧ U.heap = h0) (fun _ _ _ _ _ => True) (fun _ U o U' => ∃ v L, o = .returned v ∧ own_Qta3 Z a1 el mc mr w k h0 n0 v U'.heap L ∧ FrameEnd U o U' L ({ frames := 3, cells := 1, slots := 3, locals := 56 } : Room).cells ({ frames := 3, cells := 1, slots := 3, locals := 56 } : Room).slots) := by
  refine own_met (Q := own_Qta3 Z a1 el mc mr w k h0 n0) (plainFor_of_name own_pn4) ?_
  intro p e s m below meth c s₁ K hx hby hml hown hnm hret hZ X0 e0 hK
  have hown : s.vm.findClass "java/util/ArrayList" = some m.cls := hown
  have N0 := Fr.nil n0
  refine own_by (fun t k => castTop (own_efta3 m a1) k) ?_
  show own_Go p.tables e below K (s₁.setTop (mkF m 0 #[.val (.ref a1)] []))
  refine own_by (fun t k => XS.aloadN X0.here hx rfl (hb hby own_d17_0) rfl rfl k) ?_
  show own_Go p.tables e below K (s₁.setTop (mkF m 1 #[.val (.ref a1)] [(.ref a1)]))
  obtain ⟨T114, X114, e114, st114⟩ := getF X0 hx hZ hown (host := "") (Or.inl (hw _ (List.mem_of_getElem? (i := 44) rfl))) Via.refl e0 B0.2.2.1 (g := (mkF m 1 #[.val (.ref a1)] [(.ref a1)])) rfl rfl (hb hby own_d17_1)
  refine own_by st114 ?_
  show own_Go p.tables e below K (T114.setTop (mkF m 4 #[.val (.ref a1)] [(.ref el)]))
  refine own_by (fun t k => XS.aloadN X114.here hx rfl (hb hby own_d17_4) rfl rfl k) ?_
  show own_Go p.tables e below K (T114.setTop (mkF m 5 #[.val (.ref a1)] [(.ref a1), (.ref el)]))
  obtain ⟨T115, X115, e115, st115⟩ := getF X114 hx hZ hown (host := "") (Or.inl (hw _ (List.mem_of_getElem? (i := 53) rfl))) Via.refl e114 B0.2.2.2 (g := (mkF m 5 #[.val (.ref a1)] [(.ref a1), (.ref el)])) rfl rfl (hb hby own_d17_5)
  refine own_by st115 ?_
  show own_Go p.tables e below K (T115.setTop (mkF m 8 #[.val (.ref a1)] [(.int (3 : Int32)), (.ref el)]))
  obtain ⟨_, _, ⟨T116, L116, k116, n116⟩, -, X116, ⟨Lc116, hQ116, l116, y116, z116⟩, st116⟩ := Jvm.LawKit.callS X115 hx (y := (⟨"java/util/Arrays", "copyOf", "([Ljava/lang/Object;I)[Ljava/lang/Object;"⟩ : MethodName)) hown (mvT hZ (hw _ (List.mem_of_getElem? (i := 127) rfl))) (mvT hZ (hw _ (List.mem_of_getElem? (i := 128) rfl))) (mvT hZ (hw _ (List.mem_of_getElem? (i := 129) rfl))) (mvT hZ (hw _ (List.mem_of_getElem? (i := 130) rfl))) (by decide) (backOf (W := 0) (own_rmcb3 l Z aw hw [] el mr w k h0 n0 Z0 A0 Ew M0) hZ (hw _ (List.mem_of_getElem? (i := 130) rfl)) (hw _ (List.mem_of_getElem? (i := 129) rfl)) (by decide) (by decide)) (g := (mkF m 8 #[.val (.ref a1)] [(.int (3 : Int32)), (.ref el)])) rfl (by rw [hml]; rfl) (argsL := [(.ref el), (.int (3 : Int32))]) (rest := []) (lenOf own_pd11 rfl) rfl (by show 2 * 0 + _ ≤ _; exact Nat.le_of_eq rfl) (hb hby own_d17_8) (fun _ _ => ⟨rfl, e115, (by decide : 0 + 1 ≤ _), (by decide : 0 + 3 ≤ _)⟩)
  dsimp only [Pt.U, Pt.locs, Pt.cells, Pt.slots] at X116 l116 y116 z116 st116 hQ116
  subst l116 y116 z116
  obtain ⟨rb116, kb116, rfl, N116q, r116⟩ := hQ116
  have N116 := Fr.app N0 N116q
  refine own_by st116 ?_
  show own_Go p.tables e below K (T116.setTop (mkF m 11 #[.val (.ref a1)] [(.ref rb116)]))
  exact own_retA X116 hx hret rfl rfl rfl (hb hby own_d17_11) (hK (some (.ref rb116)) X116 (fun h => by rw [hret] at h; cases h) (⟨_, _, rfl, N116, r116⟩) (by decide) (by decide))
theorem own_pd12 : parseMethodDescriptor "()Z" = some ⟨[], some .boolean⟩ := by decide +kernel
theorem own_pd13 : parseMethodDescriptor "()Ljava/util/List;" = some ⟨[], some (.object "java/util/List")⟩ := by decide +kernel
theorem own_d14_0 : decode jdk_56_method_3_code 0 = .ok (.aload_n 0, 1) := by decide +kernel
theorem own_d14_1 : decode jdk_56_method_3_code 1 = .ok (.instanceof 10, 3) := by decide +kernel
theorem own_d14_4 : decode jdk_56_method_3_code 4 = .ok (.ifCond .ne 22, 3) := by decide +kernel
theorem own_d14_7 : decode jdk_56_method_3_code 7 = .ok (.aload_n 0, 1) := by decide +kernel
theorem own_d14_8 : decode jdk_56_method_3_code 8 = .ok (.instanceof 12, 3) := by decide +kernel
theorem own_d14_11 : decode jdk_56_method_3_code 11 = .ok (.ifCond .eq 20, 3) := by decide +kernel
theorem own_d14_31 : decode jdk_56_method_3_code 31 = .ok (.aload_n 0, 1) := by decide +kernel
theorem own_d14_32 : decode jdk_56_method_3_code 32 = .ok (.invokeinterface 20 1, 5) := by decide +kernel
theorem own_d14_37 : decode jdk_56_method_3_code 37 = .ok (.ifCond .eq 7, 3) := by decide +kernel
theorem own_d14_40 : decode jdk_56_method_3_code 40 = .ok (.invokestatic 26, 3) := by decide +kernel
theorem own_d14_43 : decode jdk_56_method_3_code 43 = .ok (.areturn, 1) := by decide +kernel
theorem own_eflcp0 (m : MethodId) (al : Addr) : entryFrame m #[(.ref al)] 2 = mkF m 0 #[.val (.ref al), .unset] [] := by first | (simp [entryFrame, mkF, argsToLocals, Value.category]; done) | rfl
def own_Qlcp0 (Z : State) (al : Addr) (el : Addr) (mc : Int32) (w : Addr) (dd : Addr) (lz : Addr) (ez : Addr) (em : Addr) (mr : Addr) (h0 : Heap) (n0 : Nat) (v : Option Value) (h : Heap) (L : List Loc) : Prop := ∃ lw : Addr, v = some (.ref lw) ∧ Fr n0 L ∧ Keep h0 h [] ∧ own_SZ Z h lw em 0
set_option maxRecDepth 65536 in
set_option maxHeartbeats 40000000 in
theorem own_rmlcp0 (l : Launch) (Z : State) (aw : Array Value) (hw : ∀ d ∈ tables_1, d.before aw Z = true) (ws : List Jvm.Cond) (al : Addr) (el : Addr) (mc : Int32) (w : Addr) (dd : Addr) (lz : Addr) (ez : Addr) (em : Addr) (mr : Addr) (h0 : Heap) (n0 : Nat) (Z0 : n0 ≤ h0.size) (B0 : own_AL Z h0 al el 0 mc)  (O0 : Old Z n0 h0) (S0 : own_St Z dd lz ez em mr) :
    MetFree l (⟨"java/util/ImmutableCollections", "listCopy", "(Ljava/util/Collection;)Ljava/util/List;"⟩ : MethodName) (head1 (Jvm.Cond.code (⟨"java/util/ImmutableCollections", "listCopy", "(Ljava/util/Collection;)Ljava/util/List;"⟩ : MethodName) jdk_56_method_3_code 2 (some (.object "java/util/List")) :: ws) ({ frames := 7, cells := 3, slots := 8, locals := 110 } : Room)) (fun a U => a = #[(.ref al)] ∧ Z.Warmed39 U.vm ∧ U.heap = h0) (fun _ _ _ _ _ => True) (fun _ U o U' => ∃ v L, o = .returned v ∧ own_Qlcp0 Z al el mc w dd lz ez em mr h0 n0 v U'.heap L ∧ FrameEnd U o U' L ({ frames := 7, cells := 3, slots := 8, locals := 110 } : Room).cells ({ frames := 7, cells := 3, slots := 8, locals := 110 } : Room).slots) := by
  refine own_met (Q := own_Qlcp0 Z al el mc w dd lz ez em mr h0 n0) (plainFor_of_name own_pn22) ?_
  intro p e s m below meth c s₁ K hx hby hml hown hnm hret hZ X0 e0 hK
  have hown : s.vm.findClass "java/util/ImmutableCollections" = some m.cls := hown
  have N0 := Fr.nil n0
  refine own_by (fun t k => castTop (own_eflcp0 m al) k) ?_
  show own_Go p.tables e below K (s₁.setTop (mkF m 0 #[.val (.ref al), .unset] []))
  refine own_by (fun t k => XS.aloadN X0.here hx rfl (hb hby own_d14_0) rfl rfl k) ?_
  show own_Go p.tables e below K (s₁.setTop (mkF m 1 #[.val (.ref al), .unset] [(.ref al)]))
  obtain ⟨T117, X117, e117, st117⟩ := instNo X0 hx hZ hown (hw _ (List.mem_of_getElem? (i := 100) rfl)) e0 B0.1 (own_noI (hw _ (List.mem_of_getElem? (i := 101) rfl)) (hw _ (List.mem_of_getElem? (i := 102) rfl)) (hw _ (List.mem_of_getElem? (i := 103) rfl)) (hw _ (List.mem_of_getElem? (i := 104) rfl)) (hw _ (List.mem_of_getElem? (i := 252) rfl)) (by decide)) (g := (mkF m 1 #[.val (.ref al), .unset] [(.ref al)])) rfl rfl (hb hby own_d14_1)
  refine own_by st117 ?_
  show own_Go p.tables e below K (T117.setTop (mkF m 4 #[.val (.ref al), .unset] [(.int (0 : Int32))]))
  have hc4 : (0 : Int32) = (0 : Int32) := by decide
  refine own_by (fun t k => XS.ifNo X117.here hx rfl (hb hby own_d14_4) rfl ((if0 _ _).trans (teq hc4).2) k) ?_
  show own_Go p.tables e below K (T117.setTop (mkF m 7 #[.val (.ref al), .unset] []))
  refine own_by (fun t k => XS.aloadN X117.here hx rfl (hb hby own_d14_7) rfl rfl k) ?_
  show own_Go p.tables e below K (T117.setTop (mkF m 8 #[.val (.ref al), .unset] [(.ref al)]))
  obtain ⟨T118, X118, e118, st118⟩ := instNo X117 hx hZ hown (hw _ (List.mem_of_getElem? (i := 105) rfl)) e117 B0.1 (own_noI (hw _ (List.mem_of_getElem? (i := 101) rfl)) (hw _ (List.mem_of_getElem? (i := 102) rfl)) (hw _ (List.mem_of_getElem? (i := 103) rfl)) (hw _ (List.mem_of_getElem? (i := 104) rfl)) (hw _ (List.mem_of_getElem? (i := 160) rfl)) (by decide)) (g := (mkF m 8 #[.val (.ref al), .unset] [(.ref al)])) rfl rfl (hb hby own_d14_8)
  refine own_by st118 ?_
  show own_Go p.tables e below K (T118.setTop (mkF m 11 #[.val (.ref al), .unset] [(.int (0 : Int32))]))
  have hc11 : (0 : Int32) = (0 : Int32) := by decide
  refine own_by (fun t k => XS.ifYes X118.here hx rfl (pc0 := 11) (pc' := 31) rfl (hb hby own_d14_11) rfl ((if0 _ _).trans (teq hc11).1) (by decide) (by decide) k) ?_
  show own_Go p.tables e below K (T118.setTop (mkF m 31 #[.val (.ref al), .unset] []))
  refine own_by (fun t k => XS.aloadN X118.here hx rfl (hb hby own_d14_31) rfl rfl k) ?_
  show own_Go p.tables e below K (T118.setTop (mkF m 32 #[.val (.ref al), .unset] [(.ref al)]))
  obtain ⟨cq119, kq119, q119a, q119b, q119c⟩ := isOf hZ e118 B0.1
  obtain ⟨_, _, ⟨T119, L119, k119, n119⟩, -, X119, ⟨Lc119, hQ119, l119, y119, z119⟩, st119⟩ := X118.interfaceBack hx (xi := (⟨"java/util/Collection", "isEmpty", "()Z"⟩ : MethodName)) (y := (⟨"java/util/ArrayList", "isEmpty", "()Z"⟩ : MethodName)) hown (mvT hZ (hw _ (List.mem_of_getElem? (i := 106) rfl))) (mvT hZ (hw _ (List.mem_of_getElem? (i := 107) rfl))) (mvT hZ (hw _ (List.mem_of_getElem? (i := 108) rfl))) (mvT hZ (hw _ (List.mem_of_getElem? (i := 109) rfl))) (mvT hZ (hw _ (List.mem_of_getElem? (i := 110) rfl))) (mvT hZ (hw _ (List.mem_of_getElem? (i := 111) rfl))) (mvT hZ (hw _ (List.mem_of_getElem? (i := 112) rfl))) (mvT hZ (hw _ (List.mem_of_getElem? (i := 113) rfl))) (by decide) (backOf (W := 0) (own_rmise l Z aw hw [] al el (0 : Int32) mc h0 n0 Z0 ⟨B0.1, B0.2.1, B0.2.2.1, B0.2.2.2⟩) hZ (hw _ (List.mem_of_getElem? (i := 114) rfl)) (hw _ (List.mem_of_getElem? (i := 24) rfl)) (by decide) (by decide)) q119a q119b q119c (g := (mkF m 32 #[.val (.ref al), .unset] [(.ref al)])) rfl (by rw [hml]; rfl) (Steps.refl _) (argsL := []) (rest := []) (lenOf own_pd12 rfl) rfl (by show 2 * 0 + _ ≤ _; exact Nat.le_of_eq rfl) (hb hby own_d14_32) (fun _ _ => ⟨rfl, e118, (by decide : 0 + 0 ≤ _), (by decide : 0 + 0 ≤ _)⟩)
  dsimp only [Pt.U, Pt.locs, Pt.cells, Pt.slots] at X119 l119 y119 z119 st119 hQ119
  subst l119 y119 z119
  obtain ⟨rfl, N119q, e119⟩ := hQ119
  have N119 := Fr.app N0 N119q
  refine own_by (fun t k => st119.trans k) ?_
  show own_Go p.tables e below K (T119.setTop (mkF m 37 #[.val (.ref al), .unset] [(.int (1 : Int32))]))
  have hc37 : ¬ ((1 : Int32) = (0 : Int32)) := by decide
  refine own_by (fun t k => XS.ifNo X119.here hx rfl (hb hby own_d14_37) rfl ((if0 _ _).trans (feq hc37).1) k) ?_
  show own_Go p.tables e below K (T119.setTop (mkF m 40 #[.val (.ref al), .unset] []))
  obtain ⟨_, _, ⟨T120, L120, k120, n120⟩, -, X120, ⟨Lc120, hQ120, l120, y120, z120⟩, st120⟩ := Jvm.LawKit.callS X119 hx (y := (⟨"java/util/List", "of", "()Ljava/util/List;"⟩ : MethodName)) hown (mvT hZ (hw _ (List.mem_of_getElem? (i := 115) rfl))) (mvT hZ (hw _ (List.mem_of_getElem? (i := 116) rfl))) (mvT hZ (hw _ (List.mem_of_getElem? (i := 94) rfl))) (mvT hZ (hw _ (List.mem_of_getElem? (i := 117) rfl))) (by decide) (backOf (W := 0) (own_rmof0 l Z aw hw [] dd lz ez em mr h0 n0 Z0 O0 S0) hZ (hw _ (List.mem_of_getElem? (i := 117) rfl)) (hw _ (List.mem_of_getElem? (i := 94) rfl)) (by decide) (by decide)) (g := (mkF m 40 #[.val (.ref al), .unset] [])) rfl (by rw [hml]; rfl) (argsL := []) (rest := []) (lenOf own_pd13 rfl) rfl (by show 2 * 0 + _ ≤ _; exact Nat.le_of_eq rfl) (hb hby own_d14_40) (fun _ _ => ⟨rfl, e119, (by decide : 0 + 0 ≤ _), (by decide : 0 + 0 ≤ _)⟩)
  dsimp only [Pt.U, Pt.locs, Pt.cells, Pt.slots] at X120 l120 y120 z120 st120 hQ120
  subst l120 y120 z120
  obtain ⟨rfl, N120q, e120⟩ := hQ120
  have N120 := Fr.app N119 N120q
  refine own_by st120 ?_
  show own_Go p.tables e below K (T120.setTop (mkF m 43 #[.val (.ref al), .unset] [(.ref lz)]))
  exact own_retA X120 hx hret rfl rfl rfl (hb hby own_d14_43) (hK (some (.ref lz)) X120 (fun h => by rw [hret] at h; cases h) (by rw [e120]; exact ⟨_, rfl, N120, (Keep.refl h0 []), Or.inl ⟨S0.2.2.2.1.ext O0.2, _, S0.2.2.2.2.1.ext O0.2, S0.2.2.2.2.2.1.ext O0.2⟩⟩) (by decide) (by decide))
theorem own_d14_44 : decode jdk_56_method_3_code 44 = .ok (.aload_n 0, 1) := by decide +kernel
theorem own_d14_45 : decode jdk_56_method_3_code 45 = .ok (.invokeinterface 30 1, 5) := by decide +kernel
theorem own_d14_50 : decode jdk_56_method_3_code 50 = .ok (.invokestatic 34, 3) := by decide +kernel
theorem own_d14_53 : decode jdk_56_method_3_code 53 = .ok (.areturn, 1) := by decide +kernel
theorem own_eflcp1 (m : MethodId) (al : Addr) : entryFrame m #[(.ref al)] 2 = mkF m 0 #[.val (.ref al), .unset] [] := by first | (simp [entryFrame, mkF, argsToLocals, Value.category]; done) | rfl
def own_Qlcp1 (Z : State) (al : Addr) (el : Addr) (mc : Int32) (w : Addr) (k : ClassId) (dd : Addr) (lz : Addr) (ez : Addr) (em : Addr) (mr : Addr) (h0 : Heap) (n0 : Nat) (v : Option Value) (h : Heap) (L : List Loc) : Prop := ∃ lw : Addr, v = some (.ref lw) ∧ Fr n0 L ∧ Keep h0 h [] ∧ own_SZ Z h lw em 1
set_option maxRecDepth 65536 in
set_option maxHeartbeats 40000000 in
theorem own_rmlcp1 (l : Launch) (Z : State) (aw : Array Value) (hw : ∀ d ∈ tables_1, d.before aw Z = true) (ws : List Jvm.Cond) (al : Addr) (el : Addr) (mc : Int32) (w : Addr) (k : ClassId) (dd : Addr) (lz : Addr) (ez : Addr) (em : Addr) (mr : Addr) (h0 : Heap) (n0 : Nat) (Z0 : n0 ≤ h0.size) (B0 : own_AL Z h0 al el 1 mc) (A0 : own_Ar Z h0 el k 10 [(.ref w), .null, .null, .null, .null, .null, .null, .null, .null, .null]) (Ew : Exa Z h0 w "com/example/skyroster/skyroster/UsedWindow") (O0 : Old Z n0 h0) (S0 : own_St Z dd lz ez em mr) :
    MetFree l (⟨"java/util/ImmutableCollections", "listCopy", "(Ljava/util/Collection;)Ljava/util/List;"⟩ : MethodName) (head1 (Jvm.Cond.code (⟨"java/util/ImmutableCollections", "listCopy", "(Ljava/util/Collection;)Ljava/util/List;"⟩ : MethodName) jdk_56_method_3_code 2 (some (.object "java/util/List")) :: ws) ({ frames := 7, cells := 3, slots := 8, locals := 110 } : Room)) (fun a U => a = #[(.ref al)] ∧ Z.Warmed39 U.vm ∧ U.heap = h0) (fun _ _ _ _ _ => True) (fun _ U o U' => ∃ v L, o = .returned v ∧ own_Qlcp1 Z al el mc w k dd lz ez em mr h0 n0 v U'.heap L ∧ FrameEnd U o U' L ({ frames := 7, cells := 3, slots := 8, locals := 110 } : Room).cells ({ frames := 7, cells := 3, slots := 8, locals := 110 } : Room).slots) := by
  refine own_met (Q := own_Qlcp1 Z al el mc w k dd lz ez em mr h0 n0) (plainFor_of_name own_pn22) ?_
  intro p e s m below meth c s₁ K hx hby hml hown hnm hret hZ X0 e0 hK
  have hown : s.vm.findClass "java/util/ImmutableCollections" = some m.cls := hown
  have N0 := Fr.nil n0
  refine own_by (fun t k => castTop (own_eflcp1 m al) k) ?_
  show own_Go p.tables e below K (s₁.setTop (mkF m 0 #[.val (.ref al), .unset] []))
  refine own_by (fun t k => XS.aloadN X0.here hx rfl (hb hby own_d14_0) rfl rfl k) ?_
  show own_Go p.tables e below K (s₁.setTop (mkF m 1 #[.val (.ref al), .unset] [(.ref al)]))
  obtain ⟨T121, X121, e121, st121⟩ := instNo X0 hx hZ hown (hw _ (List.mem_of_getElem? (i := 100) rfl)) e0 B0.1 (own_noI (hw _ (List.mem_of_getElem? (i := 101) rfl)) (hw _ (List.mem_of_getElem? (i := 102) rfl)) (hw _ (List.mem_of_getElem? (i := 103) rfl)) (hw _ (List.mem_of_getElem? (i := 104) rfl)) (hw _ (List.mem_of_getElem? (i := 252) rfl)) (by decide)) (g := (mkF m 1 #[.val (.ref al), .unset] [(.ref al)])) rfl rfl (hb hby own_d14_1)
  refine own_by st121 ?_
  show own_Go p.tables e below K (T121.setTop (mkF m 4 #[.val (.ref al), .unset] [(.int (0 : Int32))]))
  have hc4 : (0 : Int32) = (0 : Int32) := by decide
  refine own_by (fun t k => XS.ifNo X121.here hx rfl (hb hby own_d14_4) rfl ((if0 _ _).trans (teq hc4).2) k) ?_
  show own_Go p.tables e below K (T121.setTop (mkF m 7 #[.val (.ref al), .unset] []))
  refine own_by (fun t k => XS.aloadN X121.here hx rfl (hb hby own_d14_7) rfl rfl k) ?_
  show own_Go p.tables e below K (T121.setTop (mkF m 8 #[.val (.ref al), .unset] [(.ref al)]))
  obtain ⟨T122, X122, e122, st122⟩ := instNo X121 hx hZ hown (hw _ (List.mem_of_getElem? (i := 105) rfl)) e121 B0.1 (own_noI (hw _ (List.mem_of_getElem? (i := 101) rfl)) (hw _ (List.mem_of_getElem? (i := 102) rfl)) (hw _ (List.mem_of_getElem? (i := 103) rfl)) (hw _ (List.mem_of_getElem? (i := 104) rfl)) (hw _ (List.mem_of_getElem? (i := 160) rfl)) (by decide)) (g := (mkF m 8 #[.val (.ref al), .unset] [(.ref al)])) rfl rfl (hb hby own_d14_8)
  refine own_by st122 ?_
  show own_Go p.tables e below K (T122.setTop (mkF m 11 #[.val (.ref al), .unset] [(.int (0 : Int32))]))
  have hc11 : (0 : Int32) = (0 : Int32) := by decide
  refine own_by (fun t k => XS.ifYes X122.here hx rfl (pc0 := 11) (pc' := 31) rfl (hb hby own_d14_11) rfl ((if0 _ _).trans (teq hc11).1) (by decide) (by decide) k) ?_
  show own_Go p.tables e below K (T122.setTop (mkF m 31 #[.val (.ref al), .unset] []))
  refine own_by (fun t k => XS.aloadN X122.here hx rfl (hb hby own_d14_31) rfl rfl k) ?_
  show own_Go p.tables e below K (T122.setTop (mkF m 32 #[.val (.ref al), .unset] [(.ref al)]))
  obtain ⟨cq123, kq123, q123a, q123b, q123c⟩ := isOf hZ e122 B0.1
  obtain ⟨_, _, ⟨T123, L123, k123, n123⟩, -, X123, ⟨Lc123, hQ123, l123, y123, z123⟩, st123⟩ := X122.interfaceBack hx (xi := (⟨"java/util/Collection", "isEmpty", "()Z"⟩ : MethodName)) (y := (⟨"java/util/ArrayList", "isEmpty", "()Z"⟩ : MethodName)) hown (mvT hZ (hw _ (List.mem_of_getElem? (i := 106) rfl))) (mvT hZ (hw _ (List.mem_of_getElem? (i := 107) rfl))) (mvT hZ (hw _ (List.mem_of_getElem? (i := 108) rfl))) (mvT hZ (hw _ (List.mem_of_getElem? (i := 109) rfl))) (mvT hZ (hw _ (List.mem_of_getElem? (i := 110) rfl))) (mvT hZ (hw _ (List.mem_of_getElem? (i := 111) rfl))) (mvT hZ (hw _ (List.mem_of_getElem? (i := 112) rfl))) (mvT hZ (hw _ (List.mem_of_getElem? (i := 113) rfl))) (by decide) (backOf (W := 0) (own_rmise l Z aw hw [] al el (1 : Int32) mc h0 n0 Z0 ⟨B0.1, B0.2.1, B0.2.2.1, B0.2.2.2⟩) hZ (hw _ (List.mem_of_getElem? (i := 114) rfl)) (hw _ (List.mem_of_getElem? (i := 24) rfl)) (by decide) (by decide)) q123a q123b q123c (g := (mkF m 32 #[.val (.ref al), .unset] [(.ref al)])) rfl (by rw [hml]; rfl) (Steps.refl _) (argsL := []) (rest := []) (lenOf own_pd12 rfl) rfl (by show 2 * 0 + _ ≤ _; exact Nat.le_of_eq rfl) (hb hby own_d14_32) (fun _ _ => ⟨rfl, e122, (by decide : 0 + 0 ≤ _), (by decide : 0 + 0 ≤ _)⟩)
  dsimp only [Pt.U, Pt.locs, Pt.cells, Pt.slots] at X123 l123 y123 z123 st123 hQ123
  subst l123 y123 z123
  obtain ⟨rfl, N123q, e123⟩ := hQ123
  have N123 := Fr.app N0 N123q
  refine own_by (fun t k => st123.trans k) ?_
  show own_Go p.tables e below K (T123.setTop (mkF m 37 #[.val (.ref al), .unset] [(.int (0 : Int32))]))
  have hc37 : (0 : Int32) = (0 : Int32) := by decide
  refine own_by (fun t k => XS.ifYes X123.here hx rfl (pc0 := 37) (pc' := 44) rfl (hb hby own_d14_37) rfl ((if0 _ _).trans (teq hc37).1) (by decide) (by decide) k) ?_
  show own_Go p.tables e below K (T123.setTop (mkF m 44 #[.val (.ref al), .unset] []))
  refine own_by (fun t k => XS.aloadN X123.here hx rfl (hb hby own_d14_44) rfl rfl k) ?_
  show own_Go p.tables e below K (T123.setTop (mkF m 45 #[.val (.ref al), .unset] [(.ref al)]))
  obtain ⟨cq124, kq124, q124a, q124b, q124c⟩ := isOf hZ e123 B0.1
  obtain ⟨_, _, ⟨T124, L124, k124, n124⟩, -, X124, ⟨Lc124, hQ124, l124, y124, z124⟩, st124⟩ := X123.interfaceBack hx (xi := (⟨"java/util/Collection", "toArray", "()[Ljava/lang/Object;"⟩ : MethodName)) (y := (⟨"java/util/ArrayList", "toArray", "()[Ljava/lang/Object;"⟩ : MethodName)) hown (mvT hZ (hw _ (List.mem_of_getElem? (i := 119) rfl))) (mvT hZ (hw _ (List.mem_of_getElem? (i := 120) rfl))) (mvT hZ (hw _ (List.mem_of_getElem? (i := 121) rfl))) (mvT hZ (hw _ (List.mem_of_getElem? (i := 122) rfl))) (mvT hZ (hw _ (List.mem_of_getElem? (i := 123) rfl))) (mvT hZ (hw _ (List.mem_of_getElem? (i := 124) rfl))) (mvT hZ (hw _ (List.mem_of_getElem? (i := 125) rfl))) (mvT hZ (hw _ (List.mem_of_getElem? (i := 113) rfl))) (by decide) (backOf (W := 0) (own_rmta1 l Z aw hw [] al el mc mr w k h0 n0 Z0 ⟨B0.1, B0.2.1, B0.2.2.1, B0.2.2.2⟩ A0 Ew S0.2.2.2.2.2.2.2.2) hZ (hw _ (List.mem_of_getElem? (i := 126) rfl)) (hw _ (List.mem_of_getElem? (i := 24) rfl)) (by decide) (by decide)) q124a q124b q124c (g := (mkF m 45 #[.val (.ref al), .unset] [(.ref al)])) rfl (by rw [hml]; rfl) (Steps.refl _) (argsL := []) (rest := []) (lenOf own_pd3 rfl) rfl (by show 2 * 0 + _ ≤ _; exact Nat.le_of_eq rfl) (hb hby own_d14_45) (fun _ _ => ⟨rfl, e123, (by decide : 0 + 1 ≤ _), (by decide : 0 + 1 ≤ _)⟩)
  dsimp only [Pt.U, Pt.locs, Pt.cells, Pt.slots] at X124 l124 y124 z124 st124 hQ124
  subst l124 y124 z124
  obtain ⟨rb124, kb124, rfl, N124q, Kp124, Ap124⟩ := hQ124
  have N124 := Fr.app N123 N124q
  refine own_by (fun t k => st124.trans k) ?_
  have xa124_el := A0.keep Kp124 nin0
  have F124_modCount_al := B0.2.1.keep Kp124 nin0
  have F124_elementData_al := B0.2.2.1.keep Kp124 nin0
  have F124_size_al := B0.2.2.2.keep Kp124 nin0
  have Ex124_al := B0.1.keep Kp124
  have Ex124_w := Ew.keep Kp124
  have K124 := (Keep.refl h0 []).trans Kp124 (all0)
  have Z124 := Nat.le_trans Z0 Kp124.1
  have O124 := O0.keep Kp124 (all0)
  show own_Go p.tables e below K (T124.setTop (mkF m 50 #[.val (.ref al), .unset] [(.ref rb124)]))
  obtain ⟨_, _, ⟨T125, L125, k125, n125⟩, -, X125, ⟨Lc125, hQ125, l125, y125, z125⟩, st125⟩ := Jvm.LawKit.callS X124 hx (y := (⟨"java/util/List", "of", "([Ljava/lang/Object;)Ljava/util/List;"⟩ : MethodName)) hown (mvT hZ (hw _ (List.mem_of_getElem? (i := 149) rfl))) (mvT hZ (hw _ (List.mem_of_getElem? (i := 150) rfl))) (mvT hZ (hw _ (List.mem_of_getElem? (i := 94) rfl))) (mvT hZ (hw _ (List.mem_of_getElem? (i := 151) rfl))) (by decide) (backOf (W := 0) (own_rmofa1 l Z aw hw [] rb124 w kb124 dd lz ez em mr T124.heap n0 Z124 Ap124 Ex124_w O124 S0) hZ (hw _ (List.mem_of_getElem? (i := 151) rfl)) (hw _ (List.mem_of_getElem? (i := 94) rfl)) (by decide) (by decide)) (g := (mkF m 50 #[.val (.ref al), .unset] [(.ref rb124)])) rfl (by rw [hml]; rfl) (argsL := [(.ref rb124)]) (rest := []) (lenOf own_pd9 rfl) rfl (by show 2 * 0 + _ ≤ _; exact Nat.le_of_eq rfl) (hb hby own_d14_50) (fun _ _ => ⟨rfl, rfl, (by decide : 1 + 2 ≤ _), (by decide : 1 + 5 ≤ _)⟩)
  dsimp only [Pt.U, Pt.locs, Pt.cells, Pt.slots] at X125 l125 y125 z125 st125 hQ125
  subst l125 y125 z125
  obtain ⟨lw125, rfl, N125q, Kp125, sp125⟩ := hQ125
  have N125 := Fr.app N124 N125q
  refine own_by st125 ?_
  have xa125_el := xa124_el.keep Kp125 nin0
  have F125_modCount_al := F124_modCount_al.keep Kp125 nin0
  have F125_elementData_al := F124_elementData_al.keep Kp125 nin0
  have F125_size_al := F124_size_al.keep Kp125 nin0
  have Ex125_al := Ex124_al.keep Kp125
  have Ex125_w := Ex124_w.keep Kp125
  have K125 := K124.trans Kp125 (all0)
  have Z125 := Nat.le_trans Z124 Kp125.1
  have O125 := O124.keep Kp125 (all0)
  show own_Go p.tables e below K (T125.setTop (mkF m 53 #[.val (.ref al), .unset] [(.ref lw125)]))
  exact own_retA X125 hx hret rfl rfl rfl (hb hby own_d14_53) (hK (some (.ref lw125)) X125 (fun h => by rw [hret] at h; cases h) (⟨_, rfl, N125, K125, sp125⟩) (by decide) (by decide))
theorem own_eflcp2 (m : MethodId) (al : Addr) : entryFrame m #[(.ref al)] 2 = mkF m 0 #[.val (.ref al), .unset] [] := by first | (simp [entryFrame, mkF, argsToLocals, Value.category]; done) | rfl
def own_Qlcp2 (Z : State) (al : Addr) (el : Addr) (mc : Int32) (w : Addr) (k : ClassId) (dd : Addr) (lz : Addr) (ez : Addr) (em : Addr) (mr : Addr) (h0 : Heap) (n0 : Nat) (v : Option Value) (h : Heap) (L : List Loc) : Prop := ∃ lw : Addr, v = some (.ref lw) ∧ Fr n0 L ∧ Keep h0 h [] ∧ own_SZ Z h lw em 2
set_option maxRecDepth 65536 in
set_option maxHeartbeats 40000000 in
theorem own_rmlcp2 (l : Launch) (Z : State) (aw : Array Value) (hw : ∀ d ∈ tables_1, d.before aw Z = true) (ws : List Jvm.Cond) (al : Addr) (el : Addr) (mc : Int32) (w : Addr) (k : ClassId) (dd : Addr) (lz : Addr) (ez : Addr) (em : Addr) (mr : Addr) (h0 : Heap) (n0 : Nat) (Z0 : n0 ≤ h0.size) (B0 : own_AL Z h0 al el 2 mc) (A0 : own_Ar Z h0 el k 10 [(.ref w), (.ref w), .null, .null, .null, .null, .null, .null, .null, .null]) (Ew : Exa Z h0 w "com/example/skyroster/skyroster/UsedWindow") (O0 : Old Z n0 h0) (S0 : own_St Z dd lz ez em mr) :
    MetFree l (⟨"java/util/ImmutableCollections", "listCopy", "(Ljava/util/Collection;)Ljava/util/List;"⟩ : MethodName) (head1 (Jvm.Cond.code (⟨"java/util/ImmutableCollections", "listCopy", "(Ljava/util/Collection;)Ljava/util/List;"⟩ : MethodName) jdk_56_method_3_code 2 (some (.object "java/util/List")) :: ws) ({ frames := 7, cells := 3, slots := 8, locals := 110 } : Room)) (fun a U => a = #[(.ref al)] ∧ Z.Warmed39 U.vm ∧ U.heap = h0) (fun _ _ _ _ _ => True) (fun _ U o U' => ∃ v L, o = .returned v ∧ own_Qlcp2 Z al el mc w k dd lz ez em mr h0 n0 v U'.heap L ∧ FrameEnd U o U' L ({ frames := 7, cells := 3, slots := 8, locals := 110 } : Room).cells ({ frames := 7, cells := 3, slots := 8, locals := 110 } : Room).slots) := by
  refine own_met (Q := own_Qlcp2 Z al el mc w k dd lz ez em mr h0 n0) (plainFor_of_name own_pn22) ?_
  intro p e s m below meth c s₁ K hx hby hml hown hnm hret hZ X0 e0 hK
  have hown : s.vm.findClass "java/util/ImmutableCollections" = some m.cls := hown
  have N0 := Fr.nil n0
  refine own_by (fun t k => castTop (own_eflcp2 m al) k) ?_
  show own_Go p.tables e below K (s₁.setTop (mkF m 0 #[.val (.ref al), .unset] []))
  refine own_by (fun t k => XS.aloadN X0.here hx rfl (hb hby own_d14_0) rfl rfl k) ?_
  show own_Go p.tables e below K (s₁.setTop (mkF m 1 #[.val (.ref al), .unset] [(.ref al)]))
  obtain ⟨T126, X126, e126, st126⟩ := instNo X0 hx hZ hown (hw _ (List.mem_of_getElem? (i := 100) rfl)) e0 B0.1 (own_noI (hw _ (List.mem_of_getElem? (i := 101) rfl)) (hw _ (List.mem_of_getElem? (i := 102) rfl)) (hw _ (List.mem_of_getElem? (i := 103) rfl)) (hw _ (List.mem_of_getElem? (i := 104) rfl)) (hw _ (List.mem_of_getElem? (i := 252) rfl)) (by decide)) (g := (mkF m 1 #[.val (.ref al), .unset] [(.ref al)])) rfl rfl (hb hby own_d14_1)
  refine own_by st126 ?_
  show own_Go p.tables e below K (T126.setTop (mkF m 4 #[.val (.ref al), .unset] [(.int (0 : Int32))]))
  have hc4 : (0 : Int32) = (0 : Int32) := by decide
  refine own_by (fun t k => XS.ifNo X126.here hx rfl (hb hby own_d14_4) rfl ((if0 _ _).trans (teq hc4).2) k) ?_
  show own_Go p.tables e below K (T126.setTop (mkF m 7 #[.val (.ref al), .unset] []))
  refine own_by (fun t k => XS.aloadN X126.here hx rfl (hb hby own_d14_7) rfl rfl k) ?_
  show own_Go p.tables e below K (T126.setTop (mkF m 8 #[.val (.ref al), .unset] [(.ref al)]))
  obtain ⟨T127, X127, e127, st127⟩ := instNo X126 hx hZ hown (hw _ (List.mem_of_getElem? (i := 105) rfl)) e126 B0.1 (own_noI (hw _ (List.mem_of_getElem? (i := 101) rfl)) (hw _ (List.mem_of_getElem? (i := 102) rfl)) (hw _ (List.mem_of_getElem? (i := 103) rfl)) (hw _ (List.mem_of_getElem? (i := 104) rfl)) (hw _ (List.mem_of_getElem? (i := 160) rfl)) (by decide)) (g := (mkF m 8 #[.val (.ref al), .unset] [(.ref al)])) rfl rfl (hb hby own_d14_8)
  refine own_by st127 ?_
  show own_Go p.tables e below K (T127.setTop (mkF m 11 #[.val (.ref al), .unset] [(.int (0 : Int32))]))
  have hc11 : (0 : Int32) = (0 : Int32) := by decide
  refine own_by (fun t k => XS.ifYes X127.here hx rfl (pc0 := 11) (pc' := 31) rfl (hb hby own_d14_11) rfl ((if0 _ _).trans (teq hc11).1) (by decide) (by decide) k) ?_
  show own_Go p.tables e below K (T127.setTop (mkF m 31 #[.val (.ref al), .unset] []))
  refine own_by (fun t k => XS.aloadN X127.here hx rfl (hb hby own_d14_31) rfl rfl k) ?_
  show own_Go p.tables e below K (T127.setTop (mkF m 32 #[.val (.ref al), .unset] [(.ref al)]))
  obtain ⟨cq128, kq128, q128a, q128b, q128c⟩ := isOf hZ e127 B0.1
  obtain ⟨_, _, ⟨T128, L128, k128, n128⟩, -, X128, ⟨Lc128, hQ128, l128, y128, z128⟩, st128⟩ := X127.interfaceBack hx (xi := (⟨"java/util/Collection", "isEmpty", "()Z"⟩ : MethodName)) (y := (⟨"java/util/ArrayList", "isEmpty", "()Z"⟩ : MethodName)) hown (mvT hZ (hw _ (List.mem_of_getElem? (i := 106) rfl))) (mvT hZ (hw _ (List.mem_of_getElem? (i := 107) rfl))) (mvT hZ (hw _ (List.mem_of_getElem? (i := 108) rfl))) (mvT hZ (hw _ (List.mem_of_getElem? (i := 109) rfl))) (mvT hZ (hw _ (List.mem_of_getElem? (i := 110) rfl))) (mvT hZ (hw _ (List.mem_of_getElem? (i := 111) rfl))) (mvT hZ (hw _ (List.mem_of_getElem? (i := 112) rfl))) (mvT hZ (hw _ (List.mem_of_getElem? (i := 113) rfl))) (by decide) (backOf (W := 0) (own_rmise l Z aw hw [] al el (2 : Int32) mc h0 n0 Z0 ⟨B0.1, B0.2.1, B0.2.2.1, B0.2.2.2⟩) hZ (hw _ (List.mem_of_getElem? (i := 114) rfl)) (hw _ (List.mem_of_getElem? (i := 24) rfl)) (by decide) (by decide)) q128a q128b q128c (g := (mkF m 32 #[.val (.ref al), .unset] [(.ref al)])) rfl (by rw [hml]; rfl) (Steps.refl _) (argsL := []) (rest := []) (lenOf own_pd12 rfl) rfl (by show 2 * 0 + _ ≤ _; exact Nat.le_of_eq rfl) (hb hby own_d14_32) (fun _ _ => ⟨rfl, e127, (by decide : 0 + 0 ≤ _), (by decide : 0 + 0 ≤ _)⟩)
  dsimp only [Pt.U, Pt.locs, Pt.cells, Pt.slots] at X128 l128 y128 z128 st128 hQ128
  subst l128 y128 z128
  obtain ⟨rfl, N128q, e128⟩ := hQ128
  have N128 := Fr.app N0 N128q
  refine own_by (fun t k => st128.trans k) ?_
  show own_Go p.tables e below K (T128.setTop (mkF m 37 #[.val (.ref al), .unset] [(.int (0 : Int32))]))
  have hc37 : (0 : Int32) = (0 : Int32) := by decide
  refine own_by (fun t k => XS.ifYes X128.here hx rfl (pc0 := 37) (pc' := 44) rfl (hb hby own_d14_37) rfl ((if0 _ _).trans (teq hc37).1) (by decide) (by decide) k) ?_
  show own_Go p.tables e below K (T128.setTop (mkF m 44 #[.val (.ref al), .unset] []))
  refine own_by (fun t k => XS.aloadN X128.here hx rfl (hb hby own_d14_44) rfl rfl k) ?_
  show own_Go p.tables e below K (T128.setTop (mkF m 45 #[.val (.ref al), .unset] [(.ref al)]))
  obtain ⟨cq129, kq129, q129a, q129b, q129c⟩ := isOf hZ e128 B0.1
  obtain ⟨_, _, ⟨T129, L129, k129, n129⟩, -, X129, ⟨Lc129, hQ129, l129, y129, z129⟩, st129⟩ := X128.interfaceBack hx (xi := (⟨"java/util/Collection", "toArray", "()[Ljava/lang/Object;"⟩ : MethodName)) (y := (⟨"java/util/ArrayList", "toArray", "()[Ljava/lang/Object;"⟩ : MethodName)) hown (mvT hZ (hw _ (List.mem_of_getElem? (i := 119) rfl))) (mvT hZ (hw _ (List.mem_of_getElem? (i := 120) rfl))) (mvT hZ (hw _ (List.mem_of_getElem? (i := 121) rfl))) (mvT hZ (hw _ (List.mem_of_getElem? (i := 122) rfl))) (mvT hZ (hw _ (List.mem_of_getElem? (i := 123) rfl))) (mvT hZ (hw _ (List.mem_of_getElem? (i := 124) rfl))) (mvT hZ (hw _ (List.mem_of_getElem? (i := 125) rfl))) (mvT hZ (hw _ (List.mem_of_getElem? (i := 113) rfl))) (by decide) (backOf (W := 0) (own_rmta2 l Z aw hw [] al el mc mr w k h0 n0 Z0 ⟨B0.1, B0.2.1, B0.2.2.1, B0.2.2.2⟩ A0 Ew S0.2.2.2.2.2.2.2.2) hZ (hw _ (List.mem_of_getElem? (i := 126) rfl)) (hw _ (List.mem_of_getElem? (i := 24) rfl)) (by decide) (by decide)) q129a q129b q129c (g := (mkF m 45 #[.val (.ref al), .unset] [(.ref al)])) rfl (by rw [hml]; rfl) (Steps.refl _) (argsL := []) (rest := []) (lenOf own_pd3 rfl) rfl (by show 2 * 0 + _ ≤ _; exact Nat.le_of_eq rfl) (hb hby own_d14_45) (fun _ _ => ⟨rfl, e128, (by decide : 0 + 1 ≤ _), (by decide : 0 + 2 ≤ _)⟩)
  dsimp only [Pt.U, Pt.locs, Pt.cells, Pt.slots] at X129 l129 y129 z129 st129 hQ129
  subst l129 y129 z129
  obtain ⟨rb129, kb129, rfl, N129q, Kp129, Ap129⟩ := hQ129
  have N129 := Fr.app N128 N129q
  refine own_by (fun t k => st129.trans k) ?_
  have xa129_el := A0.keep Kp129 nin0
  have F129_modCount_al := B0.2.1.keep Kp129 nin0
  have F129_elementData_al := B0.2.2.1.keep Kp129 nin0
  have F129_size_al := B0.2.2.2.keep Kp129 nin0
  have Ex129_al := B0.1.keep Kp129
  have Ex129_w := Ew.keep Kp129
  have K129 := (Keep.refl h0 []).trans Kp129 (all0)
  have Z129 := Nat.le_trans Z0 Kp129.1
  have O129 := O0.keep Kp129 (all0)
  show own_Go p.tables e below K (T129.setTop (mkF m 50 #[.val (.ref al), .unset] [(.ref rb129)]))
  obtain ⟨_, _, ⟨T130, L130, k130, n130⟩, -, X130, ⟨Lc130, hQ130, l130, y130, z130⟩, st130⟩ := Jvm.LawKit.callS X129 hx (y := (⟨"java/util/List", "of", "([Ljava/lang/Object;)Ljava/util/List;"⟩ : MethodName)) hown (mvT hZ (hw _ (List.mem_of_getElem? (i := 149) rfl))) (mvT hZ (hw _ (List.mem_of_getElem? (i := 150) rfl))) (mvT hZ (hw _ (List.mem_of_getElem? (i := 94) rfl))) (mvT hZ (hw _ (List.mem_of_getElem? (i := 151) rfl))) (by decide) (backOf (W := 0) (own_rmofa2 l Z aw hw [] rb129 w kb129 dd lz ez em mr T129.heap n0 Z129 Ap129 Ex129_w O129 S0) hZ (hw _ (List.mem_of_getElem? (i := 151) rfl)) (hw _ (List.mem_of_getElem? (i := 94) rfl)) (by decide) (by decide)) (g := (mkF m 50 #[.val (.ref al), .unset] [(.ref rb129)])) rfl (by rw [hml]; rfl) (argsL := [(.ref rb129)]) (rest := []) (lenOf own_pd9 rfl) rfl (by show 2 * 0 + _ ≤ _; exact Nat.le_of_eq rfl) (hb hby own_d14_50) (fun _ _ => ⟨rfl, rfl, (by decide : 1 + 2 ≤ _), (by decide : 2 + 5 ≤ _)⟩)
  dsimp only [Pt.U, Pt.locs, Pt.cells, Pt.slots] at X130 l130 y130 z130 st130 hQ130
  subst l130 y130 z130
  obtain ⟨lw130, rfl, N130q, Kp130, sp130⟩ := hQ130
  have N130 := Fr.app N129 N130q
  refine own_by st130 ?_
  have xa130_el := xa129_el.keep Kp130 nin0
  have F130_modCount_al := F129_modCount_al.keep Kp130 nin0
  have F130_elementData_al := F129_elementData_al.keep Kp130 nin0
  have F130_size_al := F129_size_al.keep Kp130 nin0
  have Ex130_al := Ex129_al.keep Kp130
  have Ex130_w := Ex129_w.keep Kp130
  have K130 := K129.trans Kp130 (all0)
  have Z130 := Nat.le_trans Z129 Kp130.1
  have O130 := O129.keep Kp130 (all0)
  show own_Go p.tables e below K (T130.setTop (mkF m 53 #[.val (.ref al), .unset] [(.ref lw130)]))
  exact own_retA X130 hx hret rfl rfl rfl (hb hby own_d14_53) (hK (some (.ref lw130)) X130 (fun h => by rw [hret] at h; cases h) (⟨_, rfl, N130, K130, sp130⟩) (by decide) (by decide))
theorem own_eflcp3 (m : MethodId) (al : Addr) : entryFrame m #[(.ref al)] 2 = mkF m 0 #[.val (.ref al), .unset] [] := by first | (simp [entryFrame, mkF, argsToLocals, Value.category]; done) | rfl
def own_Qlcp3 (Z : State) (al : Addr) (el : Addr) (mc : Int32) (w : Addr) (k : ClassId) (dd : Addr) (lz : Addr) (ez : Addr) (em : Addr) (mr : Addr) (h0 : Heap) (n0 : Nat) (v : Option Value) (h : Heap) (L : List Loc) : Prop := ∃ lw : Addr, v = some (.ref lw) ∧ Fr n0 L ∧ Keep h0 h [] ∧ own_SZ Z h lw em 3
set_option maxRecDepth 65536 in
set_option maxHeartbeats 40000000 in
theorem own_rmlcp3 (l : Launch) (Z : State) (aw : Array Value) (hw : ∀ d ∈ tables_1, d.before aw Z = true) (ws : List Jvm.Cond) (al : Addr) (el : Addr) (mc : Int32) (w : Addr) (k : ClassId) (dd : Addr) (lz : Addr) (ez : Addr) (em : Addr) (mr : Addr) (h0 : Heap) (n0 : Nat) (Z0 : n0 ≤ h0.size) (B0 : own_AL Z h0 al el 3 mc) (A0 : own_Ar Z h0 el k 10 [(.ref w), (.ref w), (.ref w), .null, .null, .null, .null, .null, .null, .null]) (Ew : Exa Z h0 w "com/example/skyroster/skyroster/UsedWindow") (O0 : Old Z n0 h0) (S0 : own_St Z dd lz ez em mr) :
    MetFree l (⟨"java/util/ImmutableCollections", "listCopy", "(Ljava/util/Collection;)Ljava/util/List;"⟩ : MethodName) (head1 (Jvm.Cond.code (⟨"java/util/ImmutableCollections", "listCopy", "(Ljava/util/Collection;)Ljava/util/List;"⟩ : MethodName) jdk_56_method_3_code 2 (some (.object "java/util/List")) :: ws) ({ frames := 7, cells := 3, slots := 8, locals := 110 } : Room)) (fun a U => a = #[(.ref al)] ∧ Z.Warmed39 U.vm ∧ U.heap = h0) (fun _ _ _ _ _ => True) (fun _ U o U' => ∃ v L, o = .returned v ∧ own_Qlcp3 Z al el mc w k dd lz ez em mr h0 n0 v U'.heap L ∧ FrameEnd U o U' L ({ frames := 7, cells := 3, slots := 8, locals := 110 } : Room).cells ({ frames := 7, cells := 3, slots := 8, locals := 110 } : Room).slots) := by
  refine own_met (Q := own_Qlcp3 Z al el mc w k dd lz ez em mr h0 n0) (plainFor_of_name own_pn22) ?_
  intro p e s m below meth c s₁ K hx hby hml hown hnm hret hZ X0 e0 hK
  have hown : s.vm.findClass "java/util/ImmutableCollections" = some m.cls := hown
  have N0 := Fr.nil n0
  refine own_by (fun t k => castTop (own_eflcp3 m al) k) ?_
  show own_Go p.tables e below K (s₁.setTop (mkF m 0 #[.val (.ref al), .unset] []))
  refine own_by (fun t k => XS.aloadN X0.here hx rfl (hb hby own_d14_0) rfl rfl k) ?_
  show own_Go p.tables e below K (s₁.setTop (mkF m 1 #[.val (.ref al), .unset] [(.ref al)]))
  obtain ⟨T131, X131, e131, st131⟩ := instNo X0 hx hZ hown (hw _ (List.mem_of_getElem? (i := 100) rfl)) e0 B0.1 (own_noI (hw _ (List.mem_of_getElem? (i := 101) rfl)) (hw _ (List.mem_of_getElem? (i := 102) rfl)) (hw _ (List.mem_of_getElem? (i := 103) rfl)) (hw _ (List.mem_of_getElem? (i := 104) rfl)) (hw _ (List.mem_of_getElem? (i := 252) rfl)) (by decide)) (g := (mkF m 1 #[.val (.ref al), .unset] [(.ref al)])) rfl rfl (hb hby own_d14_1)
  refine own_by st131 ?_
  show own_Go p.tables e below K (T131.setTop (mkF m 4 #[.val (.ref al), .unset] [(.int (0 : Int32))]))
  have hc4 : (0 : Int32) = (0 : Int32) := by decide
  refine own_by (fun t k => XS.ifNo X131.here hx rfl (hb hby own_d14_4) rfl ((if0 _ _).trans (teq hc4).2) k) ?_
  show own_Go p.tables e below K (T131.setTop (mkF m 7 #[.val (.ref al), .unset] []))
  refine own_by (fun t k => XS.aloadN X131.here hx rfl (hb hby own_d14_7) rfl rfl k) ?_
  show own_Go p.tables e below K (T131.setTop (mkF m 8 #[.val (.ref al), .unset] [(.ref al)]))
  obtain ⟨T132, X132, e132, st132⟩ := instNo X131 hx hZ hown (hw _ (List.mem_of_getElem? (i := 105) rfl)) e131 B0.1 (own_noI (hw _ (List.mem_of_getElem? (i := 101) rfl)) (hw _ (List.mem_of_getElem? (i := 102) rfl)) (hw _ (List.mem_of_getElem? (i := 103) rfl)) (hw _ (List.mem_of_getElem? (i := 104) rfl)) (hw _ (List.mem_of_getElem? (i := 160) rfl)) (by decide)) (g := (mkF m 8 #[.val (.ref al), .unset] [(.ref al)])) rfl rfl (hb hby own_d14_8)
  refine own_by st132 ?_
  show own_Go p.tables e below K (T132.setTop (mkF m 11 #[.val (.ref al), .unset] [(.int (0 : Int32))]))
  have hc11 : (0 : Int32) = (0 : Int32) := by decide
  refine own_by (fun t k => XS.ifYes X132.here hx rfl (pc0 := 11) (pc' := 31) rfl (hb hby own_d14_11) rfl ((if0 _ _).trans (teq hc11).1) (by decide) (by decide) k) ?_
  show own_Go p.tables e below K (T132.setTop (mkF m 31 #[.val (.ref al), .unset] []))
  refine own_by (fun t k => XS.aloadN X132.here hx rfl (hb hby own_d14_31) rfl rfl k) ?_
  show own_Go p.tables e below K (T132.setTop (mkF m 32 #[.val (.ref al), .unset] [(.ref al)]))
  obtain ⟨cq133, kq133, q133a, q133b, q133c⟩ := isOf hZ e132 B0.1
  obtain ⟨_, _, ⟨T133, L133, k133, n133⟩, -, X133, ⟨Lc133, hQ133, l133, y133, z133⟩, st133⟩ := X132.interfaceBack hx (xi := (⟨"java/util/Collection", "isEmpty", "()Z"⟩ : MethodName)) (y := (⟨"java/util/ArrayList", "isEmpty", "()Z"⟩ : MethodName)) hown (mvT hZ (hw _ (List.mem_of_getElem? (i := 106) rfl))) (mvT hZ (hw _ (List.mem_of_getElem? (i := 107) rfl))) (mvT hZ (hw _ (List.mem_of_getElem? (i := 108) rfl))) (mvT hZ (hw _ (List.mem_of_getElem? (i := 109) rfl))) (mvT hZ (hw _ (List.mem_of_getElem? (i := 110) rfl))) (mvT hZ (hw _ (List.mem_of_getElem? (i := 111) rfl))) (mvT hZ (hw _ (List.mem_of_getElem? (i := 112) rfl))) (mvT hZ (hw _ (List.mem_of_getElem? (i := 113) rfl))) (by decide) (backOf (W := 0) (own_rmise l Z aw hw [] al el (3 : Int32) mc h0 n0 Z0 ⟨B0.1, B0.2.1, B0.2.2.1, B0.2.2.2⟩) hZ (hw _ (List.mem_of_getElem? (i := 114) rfl)) (hw _ (List.mem_of_getElem? (i := 24) rfl)) (by decide) (by decide)) q133a q133b q133c (g := (mkF m 32 #[.val (.ref al), .unset] [(.ref al)])) rfl (by rw [hml]; rfl) (Steps.refl _) (argsL := []) (rest := []) (lenOf own_pd12 rfl) rfl (by show 2 * 0 + _ ≤ _; exact Nat.le_of_eq rfl) (hb hby own_d14_32) (fun _ _ => ⟨rfl, e132, (by decide : 0 + 0 ≤ _), (by decide : 0 + 0 ≤ _)⟩)
  dsimp only [Pt.U, Pt.locs, Pt.cells, Pt.slots] at X133 l133 y133 z133 st133 hQ133
  subst l133 y133 z133
  obtain ⟨rfl, N133q, e133⟩ := hQ133
  have N133 := Fr.app N0 N133q
  refine own_by (fun t k => st133.trans k) ?_
  show own_Go p.tables e below K (T133.setTop (mkF m 37 #[.val (.ref al), .unset] [(.int (0 : Int32))]))
  have hc37 : (0 : Int32) = (0 : Int32) := by decide
  refine own_by (fun t k => XS.ifYes X133.here hx rfl (pc0 := 37) (pc' := 44) rfl (hb hby own_d14_37) rfl ((if0 _ _).trans (teq hc37).1) (by decide) (by decide) k) ?_
  show own_Go p.tables e below K (T133.setTop (mkF m 44 #[.val (.ref al), .unset] []))
  refine own_by (fun t k => XS.aloadN X133.here hx rfl (hb hby own_d14_44) rfl rfl k) ?_
  show own_Go p.tables e below K (T133.setTop (mkF m 45 #[.val (.ref al), .unset] [(.ref al)]))
  obtain ⟨cq134, kq134, q134a, q134b, q134c⟩ := isOf hZ e133 B0.1
  obtain ⟨_, _, ⟨T134, L134, k134, n134⟩, -, X134, ⟨Lc134, hQ134, l134, y134, z134⟩, st134⟩ := X133.interfaceBack hx (xi := (⟨"java/util/Collection", "toArray", "()[Ljava/lang/Object;"⟩ : MethodName)) (y := (⟨"java/util/ArrayList", "toArray", "()[Ljava/lang/Object;"⟩ : MethodName)) hown (mvT hZ (hw _ (List.mem_of_getElem? (i := 119) rfl))) (mvT hZ (hw _ (List.mem_of_getElem? (i := 120) rfl))) (mvT hZ (hw _ (List.mem_of_getElem? (i := 121) rfl))) (mvT hZ (hw _ (List.mem_of_getElem? (i := 122) rfl))) (mvT hZ (hw _ (List.mem_of_getElem? (i := 123) rfl))) (mvT hZ (hw _ (List.mem_of_getElem? (i := 124) rfl))) (mvT hZ (hw _ (List.mem_of_getElem? (i := 125) rfl))) (mvT hZ (hw _ (List.mem_of_getElem? (i := 113) rfl))) (by decide) (backOf (W := 0) (own_rmta3 l Z aw hw [] al el mc mr w k h0 n0 Z0 ⟨B0.1, B0.2.1, B0.2.2.1, B0.2.2.2⟩ A0 Ew S0.2.2.2.2.2.2.2.2) hZ (hw _ (List.mem_of_getElem? (i := 126) rfl)) (hw _ (List.mem_of_getElem? (i := 24) rfl)) (by decide) (by decide)) q134a q134b q134c (g := (mkF m 45 #[.val (.ref al), .unset] [(.ref al)])) rfl (by rw [hml]; rfl) (Steps.refl _) (argsL := []) (rest := []) (lenOf own_pd3 rfl) rfl (by show 2 * 0 + _ ≤ _; exact Nat.le_of_eq rfl) (hb hby own_d14_45) (fun _ _ => ⟨rfl, e133, (by decide : 0 + 1 ≤ _), (by decide : 0 + 3 ≤ _)⟩)
  dsimp only [Pt.U, Pt.locs, Pt.cells, Pt.slots] at X134 l134 y134 z134 st134 hQ134
  subst l134 y134 z134
  obtain ⟨rb134, kb134, rfl, N134q, Kp134, Ap134⟩ := hQ134
  have N134 := Fr.app N133 N134q
  refine own_by (fun t k => st134.trans k) ?_
  have xa134_el := A0.keep Kp134 nin0
  have F134_modCount_al := B0.2.1.keep Kp134 nin0
  have F134_elementData_al := B0.2.2.1.keep Kp134 nin0
  have F134_size_al := B0.2.2.2.keep Kp134 nin0
  have Ex134_al := B0.1.keep Kp134
  have Ex134_w := Ew.keep Kp134
  have K134 := (Keep.refl h0 []).trans Kp134 (all0)
  have Z134 := Nat.le_trans Z0 Kp134.1
  have O134 := O0.keep Kp134 (all0)
  show own_Go p.tables e below K (T134.setTop (mkF m 50 #[.val (.ref al), .unset] [(.ref rb134)]))
  obtain ⟨_, _, ⟨T135, L135, k135, n135⟩, -, X135, ⟨Lc135, hQ135, l135, y135, z135⟩, st135⟩ := Jvm.LawKit.callS X134 hx (y := (⟨"java/util/List", "of", "([Ljava/lang/Object;)Ljava/util/List;"⟩ : MethodName)) hown (mvT hZ (hw _ (List.mem_of_getElem? (i := 149) rfl))) (mvT hZ (hw _ (List.mem_of_getElem? (i := 150) rfl))) (mvT hZ (hw _ (List.mem_of_getElem? (i := 94) rfl))) (mvT hZ (hw _ (List.mem_of_getElem? (i := 151) rfl))) (by decide) (backOf (W := 0) (own_rmofa3 l Z aw hw [] rb134 w kb134 dd lz ez em mr T134.heap n0 Z134 Ap134 Ex134_w O134 S0) hZ (hw _ (List.mem_of_getElem? (i := 151) rfl)) (hw _ (List.mem_of_getElem? (i := 94) rfl)) (by decide) (by decide)) (g := (mkF m 50 #[.val (.ref al), .unset] [(.ref rb134)])) rfl (by rw [hml]; rfl) (argsL := [(.ref rb134)]) (rest := []) (lenOf own_pd9 rfl) rfl (by show 2 * 0 + _ ≤ _; exact Nat.le_of_eq rfl) (hb hby own_d14_50) (fun _ _ => ⟨rfl, rfl, (by decide : 1 + 2 ≤ _), (by decide : 3 + 5 ≤ _)⟩)
  dsimp only [Pt.U, Pt.locs, Pt.cells, Pt.slots] at X135 l135 y135 z135 st135 hQ135
  subst l135 y135 z135
  obtain ⟨lw135, rfl, N135q, Kp135, sp135⟩ := hQ135
  have N135 := Fr.app N134 N135q
  refine own_by st135 ?_
  have xa135_el := xa134_el.keep Kp135 nin0
  have F135_modCount_al := F134_modCount_al.keep Kp135 nin0
  have F135_elementData_al := F134_elementData_al.keep Kp135 nin0
  have F135_size_al := F134_size_al.keep Kp135 nin0
  have Ex135_al := Ex134_al.keep Kp135
  have Ex135_w := Ex134_w.keep Kp135
  have K135 := K134.trans Kp135 (all0)
  have Z135 := Nat.le_trans Z134 Kp135.1
  have O135 := O134.keep Kp135 (all0)
  show own_Go p.tables e below K (T135.setTop (mkF m 53 #[.val (.ref al), .unset] [(.ref lw135)]))
  exact own_retA X135 hx hret rfl rfl rfl (hb hby own_d14_53) (hK (some (.ref lw135)) X135 (fun h => by rw [hret] at h; cases h) (⟨_, rfl, N135, K135, sp135⟩) (by decide) (by decide))
def own_Qlcp (Z : State) (em : Addr) (n : Int32) (h0 : Heap) (n0 : Nat) (v : Option Value) (h : Heap) (L : List Loc) : Prop := ∃ lw : Addr, v = some (.ref lw) ∧ Fr n0 L ∧ Keep h0 h [] ∧ own_SZ Z h lw em n
theorem own_rmlcp (l : Launch) (Z : State) (aw : Array Value) (hw : ∀ d ∈ tables_1, d.before aw Z = true) (ws : List Jvm.Cond) (al : Addr) (el : Addr) (n : Int32) (mc : Int32) (w : Addr) (dd : Addr) (lz : Addr) (ez : Addr) (em : Addr) (mr : Addr) (h0 : Heap) (n0 : Nat) (Z0 : n0 ≤ h0.size) (B0 : own_AL Z h0 al el n mc) (A0 : own_Vs Z h0 el w n) (O0 : Old Z n0 h0) (S0 : own_St Z dd lz ez em mr) :
    MetFree l (⟨"java/util/ImmutableCollections", "listCopy", "(Ljava/util/Collection;)Ljava/util/List;"⟩ : MethodName) (head1 (Jvm.Cond.code (⟨"java/util/ImmutableCollections", "listCopy", "(Ljava/util/Collection;)Ljava/util/List;"⟩ : MethodName) jdk_56_method_3_code 2 (some (.object "java/util/List")) :: ws) ({ frames := 7, cells := 3, slots := 8, locals := 110 } : Room)) (fun a U => a = #[.ref al] ∧ Z.Warmed39 U.vm ∧ U.heap = h0) (fun _ _ _ _ _ => True) (fun _ U o U' => ∃ v L, o = .returned v ∧ own_Qlcp Z em n h0 n0 v U'.heap L ∧ FrameEnd U o U' L ({ frames := 7, cells := 3, slots := 8, locals := 110 } : Room).cells ({ frames := 7, cells := 3, slots := 8, locals := 110 } : Room).slots) := by
  rcases A0 with ⟨rfl, A⟩ | ⟨rfl, k, A, Ew⟩ | ⟨rfl, k, A, Ew⟩ | ⟨rfl, k, A, Ew⟩
  · exact own_rmlcp0 l Z aw hw ws al el mc w dd lz ez em mr h0 n0 Z0 B0 O0 S0
  · exact own_rmlcp1 l Z aw hw ws al el mc w k dd lz ez em mr h0 n0 Z0 B0 A Ew O0 S0
  · exact own_rmlcp2 l Z aw hw ws al el mc w k dd lz ez em mr h0 n0 Z0 B0 A Ew O0 S0
  · exact own_rmlcp3 l Z aw hw ws al el mc w k dd lz ez em mr h0 n0 Z0 B0 A Ew O0 S0
theorem own_pd14 : parseMethodDescriptor "(Ljava/util/Collection;)Ljava/util/List;" = some ⟨[(.object "java/util/Collection")], some (.object "java/util/List")⟩ := by decide +kernel
theorem own_d13_0 : decode jdk_40_method_48_code 0 = .ok (.aload_n 0, 1) := by decide +kernel
theorem own_d13_1 : decode jdk_40_method_48_code 1 = .ok (.invokestatic 112, 3) := by decide +kernel
theorem own_d13_4 : decode jdk_40_method_48_code 4 = .ok (.areturn, 1) := by decide +kernel
theorem own_efcpy (m : MethodId) (al : Addr) : entryFrame m #[(.ref al)] 1 = mkF m 0 #[.val (.ref al)] [] := by first | (simp [entryFrame, mkF, argsToLocals, Value.category]; done) | rfl
def own_Qcpy (Z : State) (al : Addr) (el : Addr) (n : Int32) (mc : Int32) (w : Addr) (dd : Addr) (lz : Addr) (ez : Addr) (em : Addr) (mr : Addr) (h0 : Heap) (n0 : Nat) (v : Option Value) (h : Heap) (L : List Loc) : Prop := ∃ lw : Addr, v = some (.ref lw) ∧ Fr n0 L ∧ Keep h0 h [] ∧ own_SZ Z h lw em n
set_option maxRecDepth 65536 in
set_option maxHeartbeats 40000000 in
theorem own_rmcpy (l : Launch) (Z : State) (aw : Array Value) (hw : ∀ d ∈ tables_1, d.before aw Z = true) (ws : List Jvm.Cond) (al : Addr) (el : Addr) (n : Int32) (mc : Int32) (w : Addr) (dd : Addr) (lz : Addr) (ez : Addr) (em : Addr) (mr : Addr) (h0 : Heap) (n0 : Nat) (Z0 : n0 ≤ h0.size) (B0 : own_AL Z h0 al el n mc) (A0 : own_Vs Z h0 el w n) (O0 : Old Z n0 h0) (S0 : own_St Z dd lz ez em mr) :
    MetFree l (⟨"java/util/List", "copyOf", "(Ljava/util/Collection;)Ljava/util/List;"⟩ : MethodName) (head1 (Jvm.Cond.code (⟨"java/util/List", "copyOf", "(Ljava/util/Collection;)Ljava/util/List;"⟩ : MethodName) jdk_40_method_48_code 1 (some (.object "java/util/List")) :: ws) ({ frames := 8, cells := 3, slots := 8, locals := 130 } : Room)) (fun a U => a = #[(.ref al)] ∧ Z.Warmed39 U.vm ∧ U.heap = h0) (fun _ _ _ _ _ => True) (fun _ U o U' => ∃ v L, o = .returned v ∧ own_Qcpy Z al el n mc w dd lz ez em mr h0 n0 v U'.heap L ∧ FrameEnd U o U' L ({ frames := 8, cells := 3, slots := 8, locals := 130 } : Room).cells ({ frames := 8, cells := 3, slots := 8, locals := 130 } : Room).slots) := by
  refine own_met (Q := own_Qcpy Z al el n mc w dd lz ez em mr h0 n0) (plainFor_of_name own_pn16) ?_
  intro p e s m below meth c s₁ K hx hby hml hown hnm hret hZ X0 e0 hK
  have hown : s.vm.findClass "java/util/List" = some m.cls := hown
  have N0 := Fr.nil n0
  refine own_by (fun t k => castTop (own_efcpy m al) k) ?_
  show own_Go p.tables e below K (s₁.setTop (mkF m 0 #[.val (.ref al)] []))
  refine own_by (fun t k => XS.aloadN X0.here hx rfl (hb hby own_d13_0) rfl rfl k) ?_
  show own_Go p.tables e below K (s₁.setTop (mkF m 1 #[.val (.ref al)] [(.ref al)]))
  obtain ⟨_, _, ⟨T136, L136, k136, n136⟩, -, X136, ⟨Lc136, hQ136, l136, y136, z136⟩, st136⟩ := Jvm.LawKit.callS X0 hx (y := (⟨"java/util/ImmutableCollections", "listCopy", "(Ljava/util/Collection;)Ljava/util/List;"⟩ : MethodName)) hown (mvT hZ (hw _ (List.mem_of_getElem? (i := 96) rfl))) (mvT hZ (hw _ (List.mem_of_getElem? (i := 97) rfl))) (mvT hZ (hw _ (List.mem_of_getElem? (i := 98) rfl))) (mvT hZ (hw _ (List.mem_of_getElem? (i := 99) rfl))) (by decide) (backOf (W := 0) (own_rmlcp l Z aw hw [] al el n mc w dd lz ez em mr h0 n0 Z0 B0 A0 O0 S0) hZ (hw _ (List.mem_of_getElem? (i := 99) rfl)) (hw _ (List.mem_of_getElem? (i := 98) rfl)) (by decide) (by decide)) (g := (mkF m 1 #[.val (.ref al)] [(.ref al)])) rfl (by rw [hml]; rfl) (argsL := [(.ref al)]) (rest := []) (lenOf own_pd14 rfl) rfl (by show 2 * 0 + _ ≤ _; exact Nat.le_of_eq rfl) (hb hby own_d13_1) (fun _ _ => ⟨rfl, e0, (by decide : 0 + 3 ≤ _), (by decide : 0 + 8 ≤ _)⟩)
  dsimp only [Pt.U, Pt.locs, Pt.cells, Pt.slots] at X136 l136 y136 z136 st136 hQ136
  subst l136 y136 z136
  obtain ⟨lw136, rfl, N136q, r136⟩ := hQ136
  have N136 := Fr.app N0 N136q
  refine own_by st136 ?_
  show own_Go p.tables e below K (T136.setTop (mkF m 4 #[.val (.ref al)] [(.ref lw136)]))
  exact own_retA X136 hx hret rfl rfl rfl (hb hby own_d13_4) (hK (some (.ref lw136)) X136 (fun h => by rw [hret] at h; cases h) (⟨_, rfl, N136, r136⟩) (by decide) (by decide))
theorem own_d30_0 : decode jdk_45_method_3_code 0 = .ok (.aload_n 0, 1) := by decide +kernel
theorem own_d30_1 : decode jdk_45_method_3_code 1 = .ok (.getfield 7, 3) := by decide +kernel
theorem own_d30_4 : decode jdk_45_method_3_code 4 = .ok (.arraylength, 1) := by decide +kernel
theorem own_d30_5 : decode jdk_45_method_3_code 5 = .ok (.ireturn, 1) := by decide +kernel
theorem own_efszn (m : MethodId) (a1 : Addr) : entryFrame m #[(.ref a1)] 1 = mkF m 0 #[.val (.ref a1)] [] := by first | (simp [entryFrame, mkF, argsToLocals, Value.category]; done) | rfl
def own_Qszn (Z : State) (a1 : Addr) (e1 : Addr) (n : Int32) (h0 : Heap) (n0 : Nat) (v : Option Value) (h : Heap) (L : List Loc) : Prop := v = some (.int n) ∧ Fr n0 L ∧ h = h0
set_option maxRecDepth 65536 in
set_option maxHeartbeats 40000000 in
theorem own_rmszn (l : Launch) (Z : State) (aw : Array Value) (hw : ∀ d ∈ tables_1, d.before aw Z = true) (ws : List Jvm.Cond) (a1 : Addr) (e1 : Addr) (n : Int32) (h0 : Heap) (n0 : Nat) (Z0 : n0 ≤ h0.size) (F0 : Fld Z h0 a1 "java/util/ImmutableCollections$ListN" "elements" "[Ljava/lang/Object;" (.ref e1)) (A0 : own_len Z h0 e1 n) :
    MetFree l (⟨"java/util/ImmutableCollections$ListN", "size", "()I"⟩ : MethodName) (head1 (Jvm.Cond.code (⟨"java/util/ImmutableCollections$ListN", "size", "()I"⟩ : MethodName) jdk_45_method_3_code 1 (some .int) :: ws) ({ frames := 0, cells := 0, slots := 0, locals := 0 } : Room)) (fun a U => a = #[(.ref a1)] ∧ Z.Warmed39 U.vm ∧ U.heap = h0) (fun _ _ _ _ _ => True) (fun _ U o U' => ∃ v L, o = .returned v ∧ own_Qszn Z a1 e1 n h0 n0 v U'.heap L ∧ FrameEnd U o U' L ({ frames := 0, cells := 0, slots := 0, locals := 0 } : Room).cells ({ frames := 0, cells := 0, slots := 0, locals := 0 } : Room).slots) := by
  refine own_met (Q := own_Qszn Z a1 e1 n h0 n0) (plainFor_of_name own_pn24) ?_
  intro p e s m below meth c s₁ K hx hby hml hown hnm hret hZ X0 e0 hK
  have hown : s.vm.findClass "java/util/ImmutableCollections$ListN" = some m.cls := hown
  have N0 := Fr.nil n0
  refine own_by (fun t k => castTop (own_efszn m a1) k) ?_
  show own_Go p.tables e below K (s₁.setTop (mkF m 0 #[.val (.ref a1)] []))
  refine own_by (fun t k => XS.aloadN X0.here hx rfl (hb hby own_d30_0) rfl rfl k) ?_
  show own_Go p.tables e below K (s₁.setTop (mkF m 1 #[.val (.ref a1)] [(.ref a1)]))
  obtain ⟨T137, X137, e137, st137⟩ := getF X0 hx hZ hown (host := "") (Or.inl (hw _ (List.mem_of_getElem? (i := 180) rfl))) Via.refl e0 F0 (g := (mkF m 1 #[.val (.ref a1)] [(.ref a1)])) rfl rfl (hb hby own_d30_1)
  refine own_by st137 ?_
  show own_Go p.tables e below K (T137.setTop (mkF m 4 #[.val (.ref a1)] [(.ref e1)]))
  obtain ⟨cl138, Ar138, S138⟩ := id A0
  refine own_by (fun t k => X137.arraylength hx (by rw [e137]; exact Ar138.1) (State.isArrayOf_alike hZ.alike Ar138.2.1) (g := (mkF m 4 #[.val (.ref a1)] [(.ref e1)])) rfl rfl (hb hby own_d30_4) t k) ?_
  rw [S138]
  show own_Go p.tables e below K (T137.setTop (mkF m 5 #[.val (.ref a1)] [(.int n)]))
  exact own_retI X137 hx hret (hb hby own_d30_5) (hK (some (.int n)) X137 (fun h => by rw [hret] at h; cases h) (⟨rfl, N0, e137⟩) (by decide) (by decide))
theorem own_d34_0 : decode jdk_44_method_3_code 0 = .ok (.aload_n 0, 1) := by decide +kernel
theorem own_d34_1 : decode jdk_44_method_3_code 1 = .ok (.getfield 24, 3) := by decide +kernel
theorem own_d34_4 : decode jdk_44_method_3_code 4 = .ok (.getstatic 19, 3) := by decide +kernel
theorem own_d34_7 : decode jdk_44_method_3_code 7 = .ok (.if_acmp .eq 7, 3) := by decide +kernel
theorem own_d34_14 : decode jdk_44_method_3_code 14 = .ok (.iconst 1, 1) := by decide +kernel
theorem own_d34_15 : decode jdk_44_method_3_code 15 = .ok (.ireturn, 1) := by decide +kernel
theorem own_efsz1 (m : MethodId) (a1 : Addr) : entryFrame m #[(.ref a1)] 1 = mkF m 0 #[.val (.ref a1)] [] := by first | (simp [entryFrame, mkF, argsToLocals, Value.category]; done) | rfl
def own_Qsz1 (Z : State) (a1 : Addr) (e1 : Addr) (dd : Addr) (lz : Addr) (ez : Addr) (em : Addr) (mr : Addr) (h0 : Heap) (n0 : Nat) (v : Option Value) (h : Heap) (L : List Loc) : Prop := v = some (.int (1 : Int32)) ∧ Fr n0 L ∧ h = h0
set_option maxRecDepth 65536 in
set_option maxHeartbeats 40000000 in
theorem own_rmsz1 (l : Launch) (Z : State) (aw : Array Value) (hw : ∀ d ∈ tables_1, d.before aw Z = true) (ws : List Jvm.Cond) (a1 : Addr) (e1 : Addr) (dd : Addr) (lz : Addr) (ez : Addr) (em : Addr) (mr : Addr) (h0 : Heap) (n0 : Nat) (Z0 : n0 ≤ h0.size) (F0 : Fld Z h0 a1 "java/util/ImmutableCollections$List12" "e1" "Ljava/lang/Object;" (.ref em)) (O0 : Old Z n0 h0) (S0 : own_St Z dd lz ez em mr) :
    MetFree l (⟨"java/util/ImmutableCollections$List12", "size", "()I"⟩ : MethodName) (head1 (Jvm.Cond.code (⟨"java/util/ImmutableCollections$List12", "size", "()I"⟩ : MethodName) jdk_44_method_3_code 1 (some .int) :: ws) ({ frames := 0, cells := 0, slots := 0, locals := 0 } : Room)) (fun a U => a = #[(.ref a1)] ∧ Z.Warmed39 U.vm ∧ U.heap = h0) (fun _ _ _ _ _ => True) (fun _ U o U' => ∃ v L, o = .returned v ∧ own_Qsz1 Z a1 e1 dd lz ez em mr h0 n0 v U'.heap L ∧ FrameEnd U o U' L ({ frames := 0, cells := 0, slots := 0, locals := 0 } : Room).cells ({ frames := 0, cells := 0, slots := 0, locals := 0 } : Room).slots) := by
  refine own_met (Q := own_Qsz1 Z a1 e1 dd lz ez em mr h0 n0) (plainFor_of_name own_pn35) ?_
  intro p e s m below meth c s₁ K hx hby hml hown hnm hret hZ X0 e0 hK
  have hown : s.vm.findClass "java/util/ImmutableCollections$List12" = some m.cls := hown
  have N0 := Fr.nil n0
  refine own_by (fun t k => castTop (own_efsz1 m a1) k) ?_
  show own_Go p.tables e below K (s₁.setTop (mkF m 0 #[.val (.ref a1)] []))
  refine own_by (fun t k => XS.aloadN X0.here hx rfl (hb hby own_d34_0) rfl rfl k) ?_
  show own_Go p.tables e below K (s₁.setTop (mkF m 1 #[.val (.ref a1)] [(.ref a1)]))
  obtain ⟨T139, X139, e139, st139⟩ := getF X0 hx hZ hown (host := "") (Or.inl (hw _ (List.mem_of_getElem? (i := 265) rfl))) Via.refl e0 F0 (g := (mkF m 1 #[.val (.ref a1)] [(.ref a1)])) rfl rfl (hb hby own_d34_1)
  refine own_by st139 ?_
  show own_Go p.tables e below K (T139.setTop (mkF m 4 #[.val (.ref a1)] [(.ref em)]))
  obtain ⟨T140, X140, e140, st140⟩ := getS2 X139 hx hZ hown (Or.inr (hw _ (List.mem_of_getElem? (i := 273) rfl))) Via.refl e139 (S0.2.2.2.2.2.2.1.ext O0.2) (g := (mkF m 4 #[.val (.ref a1)] [(.ref em)])) rfl (hb hby own_d34_4)
  refine own_by st140 ?_
  show own_Go p.tables e below K (T140.setTop (mkF m 7 #[.val (.ref a1)] [(.ref em), (.ref em)]))
  refine own_by (fun t k => acmp X140 hx rfl rfl rfl (pc0 := 7) (pc' := 14) (same := true) rfl (hb hby own_d34_7) rfl (by simp) (by decide) (by decide) k) ?_
  show own_Go p.tables e below K (T140.setTop (mkF m 14 #[.val (.ref a1)] []))
  refine own_by (fun t k => XS.iconst X140.here hx rfl (hb hby own_d34_14) k) ?_
  show own_Go p.tables e below K (T140.setTop (mkF m 15 #[.val (.ref a1)] [(.int (1 : Int32))]))
  exact own_retI X140 hx hret (hb hby own_d34_15) (hK (some (.int (1 : Int32))) X140 (fun h => by rw [hret] at h; cases h) (⟨rfl, N0, e140⟩) (by decide) (by decide))
theorem own_d34_10 : decode jdk_44_method_3_code 10 = .ok (.iconst 2, 1) := by decide +kernel
theorem own_d34_11 : decode jdk_44_method_3_code 11 = .ok (.goto 4, 3) := by decide +kernel
theorem own_efsz2 (m : MethodId) (a1 : Addr) : entryFrame m #[(.ref a1)] 1 = mkF m 0 #[.val (.ref a1)] [] := by first | (simp [entryFrame, mkF, argsToLocals, Value.category]; done) | rfl
def own_Qsz2 (Z : State) (a1 : Addr) (e1 : Addr) (dd : Addr) (lz : Addr) (ez : Addr) (em : Addr) (mr : Addr) (h0 : Heap) (n0 : Nat) (v : Option Value) (h : Heap) (L : List Loc) : Prop := v = some (.int (2 : Int32)) ∧ Fr n0 L ∧ h = h0
set_option maxRecDepth 65536 in
set_option maxHeartbeats 40000000 in
theorem own_rmsz2 (l : Launch) (Z : State) (aw : Array Value) (hw : ∀ d ∈ tables_1, d.before aw Z = true) (ws : List Jvm.Cond) (a1 : Addr) (e1 : Addr) (dd : Addr) (lz : Addr) (ez : Addr) (em : Addr) (mr : Addr) (h0 : Heap) (n0 : Nat) (Z0 : n0 ≤ h0.size) (F0 : Fld Z h0 a1 "java/util/ImmutableCollections$List12" "e1" "Ljava/lang/Object;" (.ref e1)) (hne : ¬ e1 = em) (O0 : Old Z n0 h0) (S0 : own_St Z dd lz ez em mr) :
    MetFree l (⟨"java/util/ImmutableCollections$List12", "size", "()I"⟩ : MethodName) (head1 (Jvm.Cond.code (⟨"java/util/ImmutableCollections$List12", "size", "()I"⟩ : MethodName) jdk_44_method_3_code 1 (some .int) :: ws) ({ frames := 0, cells := 0, slots := 0, locals := 0 } : Room)) (fun a U => a = #[(.ref a1)] ∧ Z.Warmed39 U.vm ∧ U.heap = h0) (fun _ _ _ _ _ => True) (fun _ U o U' => ∃ v L, o = .returned v ∧ own_Qsz2 Z a1 e1 dd lz ez em mr h0 n0 v U'.heap L ∧ FrameEnd U o U' L ({ frames := 0, cells := 0, slots := 0, locals := 0 } : Room).cells ({ frames := 0, cells := 0, slots := 0, locals := 0 } : Room).slots) := by
  refine own_met (Q := own_Qsz2 Z a1 e1 dd lz ez em mr h0 n0) (plainFor_of_name own_pn35) ?_
  intro p e s m below meth c s₁ K hx hby hml hown hnm hret hZ X0 e0 hK
  have hown : s.vm.findClass "java/util/ImmutableCollections$List12" = some m.cls := hown
  have N0 := Fr.nil n0
  refine own_by (fun t k => castTop (own_efsz2 m a1) k) ?_
  show own_Go p.tables e below K (s₁.setTop (mkF m 0 #[.val (.ref a1)] []))
  refine own_by (fun t k => XS.aloadN X0.here hx rfl (hb hby own_d34_0) rfl rfl k) ?_
  show own_Go p.tables e below K (s₁.setTop (mkF m 1 #[.val (.ref a1)] [(.ref a1)]))
  obtain ⟨T141, X141, e141, st141⟩ := getF X0 hx hZ hown (host := "") (Or.inl (hw _ (List.mem_of_getElem? (i := 265) rfl))) Via.refl e0 F0 (g := (mkF m 1 #[.val (.ref a1)] [(.ref a1)])) rfl rfl (hb hby own_d34_1)
  refine own_by st141 ?_
  show own_Go p.tables e below K (T141.setTop (mkF m 4 #[.val (.ref a1)] [(.ref e1)]))
  obtain ⟨T142, X142, e142, st142⟩ := getS2 X141 hx hZ hown (Or.inr (hw _ (List.mem_of_getElem? (i := 273) rfl))) Via.refl e141 (S0.2.2.2.2.2.2.1.ext O0.2) (g := (mkF m 4 #[.val (.ref a1)] [(.ref e1)])) rfl (hb hby own_d34_4)
  refine own_by st142 ?_
  show own_Go p.tables e below K (T142.setTop (mkF m 7 #[.val (.ref a1)] [(.ref em), (.ref e1)]))
  refine own_by (fun t k => acmp X142 hx rfl rfl rfl (pc0 := 7) (pc' := 10) (same := false) rfl (hb hby own_d34_7) rfl (by simp [hne]) (by decide) (by decide) k) ?_
  show own_Go p.tables e below K (T142.setTop (mkF m 10 #[.val (.ref a1)] []))
  refine own_by (fun t k => XS.iconst X142.here hx rfl (hb hby own_d34_10) k) ?_
  show own_Go p.tables e below K (T142.setTop (mkF m 11 #[.val (.ref a1)] [(.int (2 : Int32))]))
  refine own_by (fun t k => XS.goto X142.here hx rfl (pc0 := 11) (pc' := 15) rfl (hb hby own_d34_11) (by decide) (by decide) k) ?_
  show own_Go p.tables e below K (T142.setTop (mkF m 15 #[.val (.ref a1)] [(.int (2 : Int32))]))
  exact own_retI X142 hx hret (hb hby own_d34_15) (hK (some (.int (2 : Int32))) X142 (fun h => by rw [hret] at h; cases h) (⟨rfl, N0, e142⟩) (by decide) (by decide))
theorem own_pn1 : plainName "com/example/skyroster/skyroster/UsedWindow" = true := by first | (simp [plainName, overriddenIn]; done) | decide +kernel
theorem own_d1_0 : decode prog_24_method_1_code 0 = .ok (.aload_n 0, 1) := by decide +kernel
theorem own_d1_1 : decode prog_24_method_1_code 1 = .ok (.invokespecial 1, 3) := by decide +kernel
theorem own_d1_4 : decode prog_24_method_1_code 4 = .ok (.aload_n 0, 1) := by decide +kernel
theorem own_d1_5 : decode prog_24_method_1_code 5 = .ok (.lload_n 1, 1) := by decide +kernel
theorem own_d1_6 : decode prog_24_method_1_code 6 = .ok (.putfield 7, 3) := by decide +kernel
theorem own_d1_9 : decode prog_24_method_1_code 9 = .ok (.aload_n 0, 1) := by decide +kernel
theorem own_d1_10 : decode prog_24_method_1_code 10 = .ok (.lload_n 3, 1) := by decide +kernel
theorem own_d1_11 : decode prog_24_method_1_code 11 = .ok (.putfield 13, 3) := by decide +kernel
theorem own_d1_14 : decode prog_24_method_1_code 14 = .ok (.aload_n 0, 1) := by decide +kernel
theorem own_d1_15 : decode prog_24_method_1_code 15 = .ok (.lload 5, 2) := by decide +kernel
theorem own_d1_17 : decode prog_24_method_1_code 17 = .ok (.putfield 16, 3) := by decide +kernel
theorem own_d1_20 : decode prog_24_method_1_code 20 = .ok (.return_, 1) := by decide +kernel
theorem own_efuwi (m : MethodId) (a1 : Addr) (j1 : Int64) (j2 : Int64) (j3 : Int64) : entryFrame m #[(.ref a1), (.long j1), (.long j2), (.long j3)] 7 = mkF m 0 #[.val (.ref a1), .val (.long j1), .second, .val (.long j2), .second, .val (.long j3), .second] [] := by first | (simp [entryFrame, mkF, argsToLocals, Value.category]; done) | rfl
def own_Quwi (Z : State) (a1 : Addr) (j1 : Int64) (j2 : Int64) (j3 : Int64) (h0 : Heap) (n0 : Nat) (v : Option Value) (h : Heap) (L : List Loc) : Prop := v = none ∧ Fr n0 L ∧ Keep h0 h [a1] ∧ Exa Z h a1 "com/example/skyroster/skyroster/UsedWindow"
set_option maxRecDepth 65536 in
set_option maxHeartbeats 40000000 in
theorem own_rmuwi (l : Launch) (Z : State) (aw : Array Value) (hw : ∀ d ∈ tables_1, d.before aw Z = true) (ws : List Jvm.Cond) (a1 : Addr) (j1 : Int64) (j2 : Int64) (j3 : Int64) (h0 : Heap) (n0 : Nat) (Z0 : n0 ≤ h0.size) (E0 : Exa Z h0 a1 "com/example/skyroster/skyroster/UsedWindow") (ga : n0 ≤ a1) (F0_startS : Fld Z h0 a1 "com/example/skyroster/skyroster/UsedWindow" "startS" "J" (.long (0 : Int64))) (F0_endS : Fld Z h0 a1 "com/example/skyroster/skyroster/UsedWindow" "endS" "J" (.long (0 : Int64))) (F0_orbit : Fld Z h0 a1 "com/example/skyroster/skyroster/UsedWindow" "orbit" "J" (.long (0 : Int64)))  :
    MetFree l (⟨"com/example/skyroster/skyroster/UsedWindow", "<init>", "(JJJ)V"⟩ : MethodName) (head1 (Jvm.Cond.code (⟨"com/example/skyroster/skyroster/UsedWindow", "<init>", "(JJJ)V"⟩ : MethodName) prog_24_method_1_code 7 none :: ws) ({ frames := 2, cells := 0, slots := 0, locals := 24 } : Room)) (fun a U => a = #[(.ref a1), (.long j1), (.long j2), (.long j3)] ∧ Z.Warmed39 U.vm ∧ U.heap = h0) (fun _ _ _ _ _ => True) (fun _ U o U' => ∃ v L, o = .returned v ∧ own_Quwi Z a1 j1 j2 j3 h0 n0 v U'.heap L ∧ FrameEnd U o U' L ({ frames := 2, cells := 0, slots := 0, locals := 24 } : Room).cells ({ frames := 2, cells := 0, slots := 0, locals := 24 } : Room).slots) := by
  refine own_met (Q := own_Quwi Z a1 j1 j2 j3 h0 n0) (plainFor_of_name own_pn1) ?_
  intro p e s m below meth c s₁ K hx hby hml hown hnm hret hZ X0 e0 hK
  have hown : s.vm.findClass "com/example/skyroster/skyroster/UsedWindow" = some m.cls := hown
  have hnm : meth.name = "<init>" := hnm
  have N0 := Fr.nil n0
  refine own_by (fun t k => castTop (own_efuwi m a1 j1 j2 j3) k) ?_
  show own_Go p.tables e below K (s₁.setTop (mkF m 0 #[.val (.ref a1), .val (.long j1), .second, .val (.long j2), .second, .val (.long j3), .second] []))
  refine own_by (fun t k => XS.aloadN X0.here hx rfl (hb hby own_d1_0) rfl rfl k) ?_
  show own_Go p.tables e below K (s₁.setTop (mkF m 1 #[.val (.ref a1), .val (.long j1), .second, .val (.long j2), .second, .val (.long j3), .second] [(.ref a1)]))
  obtain ⟨_, _, ⟨T143, L143, k143, n143⟩, -, X143, ⟨Lc143, hQ143, l143, y143, z143⟩, st143⟩ := X0.specialBack hx (y := (⟨"java/lang/Record", "<init>", "()V"⟩ : MethodName)) rfl hown (mvT hZ (hw _ (List.mem_of_getElem? (i := 8) rfl))) (mvT hZ (hw _ (List.mem_of_getElem? (i := 9) rfl))) (mvT hZ (hw _ (List.mem_of_getElem? (i := 12) rfl))) (by decide) (backOf (W := 0) (own_rmrci l Z aw hw [] a1 h0 n0 Z0) hZ (hw _ (List.mem_of_getElem? (i := 12) rfl)) (hw _ (List.mem_of_getElem? (i := 11) rfl)) (by decide) (by decide)) (g := (mkF m 1 #[.val (.ref a1), .val (.long j1), .second, .val (.long j2), .second, .val (.long j3), .second] [(.ref a1)])) rfl (by rw [hml]; rfl) (Steps.refl _) (a := a1) (argsL := []) (rest := []) (lenOf own_pd0 rfl) rfl (by show 2 * 0 + _ ≤ _; exact Nat.le_of_eq rfl) (hb hby own_d1_1) (fun _ _ => ⟨rfl, e0, (by decide : 0 + 0 ≤ _), (by decide : 0 + 0 ≤ _)⟩)
  dsimp only [Pt.U, Pt.locs, Pt.cells, Pt.slots] at X143 l143 y143 z143 st143 hQ143
  subst l143 y143 z143
  obtain ⟨rfl, N143q, e143⟩ := hQ143
  have N143 := Fr.app N0 N143q
  refine own_by (fun t k => st143.trans k) ?_
  show own_Go p.tables e below K (T143.setTop (mkF m 4 #[.val (.ref a1), .val (.long j1), .second, .val (.long j2), .second, .val (.long j3), .second] []))
  refine own_by (fun t k => XS.aloadN X143.here hx rfl (hb hby own_d1_4) rfl rfl k) ?_
  show own_Go p.tables e below K (T143.setTop (mkF m 5 #[.val (.ref a1), .val (.long j1), .second, .val (.long j2), .second, .val (.long j3), .second] [(.ref a1)]))
  refine own_by (fun t k => XS.lloadN X143.here hx rfl (hb hby own_d1_5) rfl k) ?_
  show own_Go p.tables e below K (T143.setTop (mkF m 6 #[.val (.ref a1), .val (.long j1), .second, .val (.long j2), .second, .val (.long j3), .second] [(.long j1), (.ref a1)]))
  obtain ⟨T144, h144, X144, e144, W144, st144⟩ := putF X143 hx hZ hown (host := "") (Or.inl (hw _ (List.mem_of_getElem? (i := 16) rfl))) Via.refl e143 F0_startS E0 (Or.inr ⟨(hw _ (List.mem_of_getElem? (i := 17) rfl)), rfl, hnm⟩) (hw _ (List.mem_of_getElem? (i := 3) rfl)) (ty := .long) (by decide) rfl rfl (g := (mkF m 6 #[.val (.ref a1), .val (.long j1), .second, .val (.long j2), .second, .val (.long j3), .second] [(.long j1), (.ref a1)])) rfl rfl (hb hby own_d1_6)
  refine own_by st144 ?_
  have F144_startS_a1 := F0_startS.same W144
  have F144_endS_a1 := F0_endS.other W144 (Or.inr (slot_ne (Or.inr (hw _ (List.mem_of_getElem? (i := 19) rfl))) (Or.inr (hw _ (List.mem_of_getElem? (i := 17) rfl))) (by decide) (t := .long) (t' := .long) (by decide) (by decide)))
  have F144_orbit_a1 := F0_orbit.other W144 (Or.inr (slot_ne (Or.inr (hw _ (List.mem_of_getElem? (i := 21) rfl))) (Or.inr (hw _ (List.mem_of_getElem? (i := 17) rfl))) (by decide) (t := .long) (t' := .long) (by decide) (by decide)))
  have Ex144_a1 := E0.wr W144
  have K144 := (Keep.refl h0 [a1]).wr W144 (Or.inl (by simp))
  have Z144 := Nat.le_trans Z0 (Keep.of_wr W144).1
  have N144 := Fr.snoc X144 N143 ga
  show own_Go p.tables e below K (T144.setTop (mkF m 9 #[.val (.ref a1), .val (.long j1), .second, .val (.long j2), .second, .val (.long j3), .second] []))
  refine own_by (fun t k => XS.aloadN X144.here hx rfl (hb hby own_d1_9) rfl rfl k) ?_
  show own_Go p.tables e below K (T144.setTop (mkF m 10 #[.val (.ref a1), .val (.long j1), .second, .val (.long j2), .second, .val (.long j3), .second] [(.ref a1)]))
  refine own_by (fun t k => XS.lloadN X144.here hx rfl (hb hby own_d1_10) rfl k) ?_
  show own_Go p.tables e below K (T144.setTop (mkF m 11 #[.val (.ref a1), .val (.long j1), .second, .val (.long j2), .second, .val (.long j3), .second] [(.long j2), (.ref a1)]))
  obtain ⟨T145, h145, X145, e145, W145, st145⟩ := putF X144 hx hZ hown (host := "") (Or.inl (hw _ (List.mem_of_getElem? (i := 18) rfl))) Via.refl e144 F144_endS_a1 Ex144_a1 (Or.inr ⟨(hw _ (List.mem_of_getElem? (i := 19) rfl)), rfl, hnm⟩) (hw _ (List.mem_of_getElem? (i := 3) rfl)) (ty := .long) (by decide) rfl rfl (g := (mkF m 11 #[.val (.ref a1), .val (.long j1), .second, .val (.long j2), .second, .val (.long j3), .second] [(.long j2), (.ref a1)])) rfl rfl (hb hby own_d1_11)
  refine own_by st145 ?_
  have F145_startS_a1 := F144_startS_a1.other W145 (Or.inr (slot_ne (Or.inr (hw _ (List.mem_of_getElem? (i := 17) rfl))) (Or.inr (hw _ (List.mem_of_getElem? (i := 19) rfl))) (by decide) (t := .long) (t' := .long) (by decide) (by decide)))
  have F145_endS_a1 := F144_endS_a1.same W145
  have F145_orbit_a1 := F144_orbit_a1.other W145 (Or.inr (slot_ne (Or.inr (hw _ (List.mem_of_getElem? (i := 21) rfl))) (Or.inr (hw _ (List.mem_of_getElem? (i := 19) rfl))) (by decide) (t := .long) (t' := .long) (by decide) (by decide)))
  have Ex145_a1 := Ex144_a1.wr W145
  have K145 := K144.wr W145 (Or.inl (by simp))
  have Z145 := Nat.le_trans Z144 (Keep.of_wr W145).1
  have N145 := Fr.snoc X145 N144 ga
  show own_Go p.tables e below K (T145.setTop (mkF m 14 #[.val (.ref a1), .val (.long j1), .second, .val (.long j2), .second, .val (.long j3), .second] []))
  refine own_by (fun t k => XS.aloadN X145.here hx rfl (hb hby own_d1_14) rfl rfl k) ?_
  show own_Go p.tables e below K (T145.setTop (mkF m 15 #[.val (.ref a1), .val (.long j1), .second, .val (.long j2), .second, .val (.long j3), .second] [(.ref a1)]))
  refine own_by (fun t k => XS.lload X145.here hx rfl (hb hby own_d1_15) rfl k) ?_
  show own_Go p.tables e below K (T145.setTop (mkF m 17 #[.val (.ref a1), .val (.long j1), .second, .val (.long j2), .second, .val (.long j3), .second] [(.long j3), (.ref a1)]))
  obtain ⟨T146, h146, X146, e146, W146, st146⟩ := putF X145 hx hZ hown (host := "") (Or.inl (hw _ (List.mem_of_getElem? (i := 20) rfl))) Via.refl e145 F145_orbit_a1 Ex145_a1 (Or.inr ⟨(hw _ (List.mem_of_getElem? (i := 21) rfl)), rfl, hnm⟩) (hw _ (List.mem_of_getElem? (i := 3) rfl)) (ty := .long) (by decide) rfl rfl (g := (mkF m 17 #[.val (.ref a1), .val (.long j1), .second, .val (.long j2), .second, .val (.long j3), .second] [(.long j3), (.ref a1)])) rfl rfl (hb hby own_d1_17)
  refine own_by st146 ?_
  have F146_startS_a1 := F145_startS_a1.other W146 (Or.inr (slot_ne (Or.inr (hw _ (List.mem_of_getElem? (i := 17) rfl))) (Or.inr (hw _ (List.mem_of_getElem? (i := 21) rfl))) (by decide) (t := .long) (t' := .long) (by decide) (by decide)))
  have F146_endS_a1 := F145_endS_a1.other W146 (Or.inr (slot_ne (Or.inr (hw _ (List.mem_of_getElem? (i := 19) rfl))) (Or.inr (hw _ (List.mem_of_getElem? (i := 21) rfl))) (by decide) (t := .long) (t' := .long) (by decide) (by decide)))
  have F146_orbit_a1 := F145_orbit_a1.same W146
  have Ex146_a1 := Ex145_a1.wr W146
  have K146 := K145.wr W146 (Or.inl (by simp))
  have Z146 := Nat.le_trans Z145 (Keep.of_wr W146).1
  have N146 := Fr.snoc X146 N145 ga
  show own_Go p.tables e below K (T146.setTop (mkF m 20 #[.val (.ref a1), .val (.long j1), .second, .val (.long j2), .second, .val (.long j3), .second] []))
  exact own_retV X146 hx hret (hb hby own_d1_20) (hK none X146 (fun _ => rfl) (by rw [e146]; exact ⟨rfl, N146, K146, Ex146_a1⟩) (by decide) (by decide))
theorem own_pn12 : plainName "com/example/skyroster/skyroster/Satellite" = true := by first | (simp [plainName, overriddenIn]; done) | decide +kernel
theorem own_d12_0 : decode prog_15_method_1_code 0 = .ok (.aload_n 0, 1) := by decide +kernel
theorem own_d12_1 : decode prog_15_method_1_code 1 = .ok (.invokespecial 1, 3) := by decide +kernel
theorem own_d12_4 : decode prog_15_method_1_code 4 = .ok (.aload_n 3, 1) := by decide +kernel
theorem own_d12_5 : decode prog_15_method_1_code 5 = .ok (.invokestatic 7, 3) := by decide +kernel
theorem own_d12_8 : decode prog_15_method_1_code 8 = .ok (.astore_n 3, 1) := by decide +kernel
theorem own_d12_9 : decode prog_15_method_1_code 9 = .ok (.aload 12, 2) := by decide +kernel
theorem own_d12_11 : decode prog_15_method_1_code 11 = .ok (.invokestatic 7, 3) := by decide +kernel
theorem own_d12_14 : decode prog_15_method_1_code 14 = .ok (.astore 12, 2) := by decide +kernel
theorem own_d12_16 : decode prog_15_method_1_code 16 = .ok (.aload_n 0, 1) := by decide +kernel
theorem own_d12_17 : decode prog_15_method_1_code 17 = .ok (.aload_n 1, 1) := by decide +kernel
theorem own_d12_18 : decode prog_15_method_1_code 18 = .ok (.putfield 13, 3) := by decide +kernel
theorem own_d12_21 : decode prog_15_method_1_code 21 = .ok (.aload_n 0, 1) := by decide +kernel
theorem own_d12_22 : decode prog_15_method_1_code 22 = .ok (.aload_n 2, 1) := by decide +kernel
theorem own_d12_23 : decode prog_15_method_1_code 23 = .ok (.putfield 19, 3) := by decide +kernel
theorem own_d12_26 : decode prog_15_method_1_code 26 = .ok (.aload_n 0, 1) := by decide +kernel
theorem own_d12_27 : decode prog_15_method_1_code 27 = .ok (.aload_n 3, 1) := by decide +kernel
theorem own_d12_28 : decode prog_15_method_1_code 28 = .ok (.putfield 22, 3) := by decide +kernel
theorem own_d12_31 : decode prog_15_method_1_code 31 = .ok (.aload_n 0, 1) := by decide +kernel
theorem own_d12_32 : decode prog_15_method_1_code 32 = .ok (.dload 4, 2) := by decide +kernel
theorem own_d12_34 : decode prog_15_method_1_code 34 = .ok (.putfield 26, 3) := by decide +kernel
theorem own_d12_37 : decode prog_15_method_1_code 37 = .ok (.aload_n 0, 1) := by decide +kernel
theorem own_d12_38 : decode prog_15_method_1_code 38 = .ok (.lload 6, 2) := by decide +kernel
theorem own_d12_40 : decode prog_15_method_1_code 40 = .ok (.putfield 30, 3) := by decide +kernel
theorem own_d12_43 : decode prog_15_method_1_code 43 = .ok (.aload_n 0, 1) := by decide +kernel
theorem own_d12_44 : decode prog_15_method_1_code 44 = .ok (.lload 8, 2) := by decide +kernel
theorem own_d12_46 : decode prog_15_method_1_code 46 = .ok (.putfield 34, 3) := by decide +kernel
theorem own_d12_49 : decode prog_15_method_1_code 49 = .ok (.aload_n 0, 1) := by decide +kernel
theorem own_d12_50 : decode prog_15_method_1_code 50 = .ok (.lload 10, 2) := by decide +kernel
theorem own_d12_52 : decode prog_15_method_1_code 52 = .ok (.putfield 37, 3) := by decide +kernel
theorem own_d12_55 : decode prog_15_method_1_code 55 = .ok (.aload_n 0, 1) := by decide +kernel
theorem own_d12_56 : decode prog_15_method_1_code 56 = .ok (.aload 12, 2) := by decide +kernel
theorem own_d12_58 : decode prog_15_method_1_code 58 = .ok (.putfield 40, 3) := by decide +kernel
theorem own_d12_61 : decode prog_15_method_1_code 61 = .ok (.return_, 1) := by decide +kernel
theorem own_efsai (m : MethodId) (a1 : Addr) (s1 : Addr) (s2 : Addr) (r0 : Addr) (dc : UInt64) (j1 : Int64) (j2 : Int64) (j3 : Int64) (al : Addr) : entryFrame m #[(.ref a1), (.ref s1), (.ref s2), (.ref r0), (.double dc), (.long j1), (.long j2), (.long j3), (.ref al)] 13 = mkF m 0 #[.val (.ref a1), .val (.ref s1), .val (.ref s2), .val (.ref r0), .val (.double dc), .second, .val (.long j1), .second, .val (.long j2), .second, .val (.long j3), .second, .val (.ref al)] [] := by first | (simp [entryFrame, mkF, argsToLocals, Value.category]; done) | rfl
def own_Qsai (Z : State) (a1 : Addr) (s1 : Addr) (s2 : Addr) (r0 : Addr) (dc : UInt64) (j1 : Int64) (j2 : Int64) (j3 : Int64) (al : Addr) (mc0 : Int32) (el : Addr) (n : Int32) (mc : Int32) (w : Addr) (dd : Addr) (lz : Addr) (ez : Addr) (em : Addr) (mr : Addr) (h0 : Heap) (n0 : Nat) (v : Option Value) (h : Heap) (L : List Loc) : Prop := v = none ∧ Fr n0 L ∧ Keep h0 h [a1] ∧ Exa Z h a1 "com/example/skyroster/skyroster/Satellite" ∧ Fld Z h a1 "com/example/skyroster/skyroster/Satellite" "costCoefficient" "D" (.double dc) ∧ ∃ lw, Fld Z h a1 "com/example/skyroster/skyroster/Satellite" "usedWindows" "Ljava/util/List;" (.ref lw) ∧ own_SZ Z h lw em n
set_option maxRecDepth 65536 in
set_option maxHeartbeats 40000000 in
theorem own_rmsai (l : Launch) (Z : State) (aw : Array Value) (hw : ∀ d ∈ tables_1, d.before aw Z = true) (ws : List Jvm.Cond) (a1 : Addr) (s1 : Addr) (s2 : Addr) (r0 : Addr) (dc : UInt64) (j1 : Int64) (j2 : Int64) (j3 : Int64) (al : Addr) (mc0 : Int32) (el : Addr) (n : Int32) (mc : Int32) (w : Addr) (dd : Addr) (lz : Addr) (ez : Addr) (em : Addr) (mr : Addr) (h0 : Heap) (n0 : Nat) (Z0 : n0 ≤ h0.size) (E0 : Exa Z h0 a1 "com/example/skyroster/skyroster/Satellite") (ga : n0 ≤ a1) (F0_id : Fld Z h0 a1 "com/example/skyroster/skyroster/Satellite" "id" "Ljava/lang/String;" .null) (F0_name : Fld Z h0 a1 "com/example/skyroster/skyroster/Satellite" "name" "Ljava/lang/String;" .null) (F0_payloads : Fld Z h0 a1 "com/example/skyroster/skyroster/Satellite" "payloads" "Ljava/util/List;" .null) (F0_costCoefficient : Fld Z h0 a1 "com/example/skyroster/skyroster/Satellite" "costCoefficient" "D" (.double (0 : UInt64))) (F0_minGapS : Fld Z h0 a1 "com/example/skyroster/skyroster/Satellite" "minGapS" "J" (.long (0 : Int64))) (F0_maxOrbitS : Fld Z h0 a1 "com/example/skyroster/skyroster/Satellite" "maxOrbitS" "J" (.long (0 : Int64))) (F0_maxDayS : Fld Z h0 a1 "com/example/skyroster/skyroster/Satellite" "maxDayS" "J" (.long (0 : Int64))) (F0_usedWindows : Fld Z h0 a1 "com/example/skyroster/skyroster/Satellite" "usedWindows" "Ljava/util/List;" .null) (B1 : own_AL Z h0 r0 dd 0 mc0) (B0 : own_AL Z h0 al el n mc) (A0 : own_Vs Z h0 el w n) (O0 : Old Z n0 h0) (S0 : own_St Z dd lz ez em mr) :
    MetFree l (⟨"com/example/skyroster/skyroster/Satellite", "<init>", "(Ljava/lang/String;Ljava/lang/String;Ljava/util/List;DJJJLjava/util/List;)V"⟩ : MethodName) (head1 (Jvm.Cond.code (⟨"com/example/skyroster/skyroster/Satellite", "<init>", "(Ljava/lang/String;Ljava/lang/String;Ljava/util/List;DJJJLjava/util/List;)V"⟩ : MethodName) prog_15_method_1_code 13 none :: ws) ({ frames := 9, cells := 6, slots := 16, locals := 150 } : Room)) (fun a U => a = #[(.ref a1), (.ref s1), (.ref s2), (.ref r0), (.double dc), (.long j1), (.long j2), (.long j3), (.ref al)] ∧ Z.Warmed39 U.vm ∧ U.heap = h0) (fun _ _ _ _ _ => True) (fun _ U o U' => ∃ v L, o = .returned v ∧ own_Qsai Z a1 s1 s2 r0 dc j1 j2 j3 al mc0 el n mc w dd lz ez em mr h0 n0 v U'.heap L ∧ FrameEnd U o U' L ({ frames := 9, cells := 6, slots := 16, locals := 150 } : Room).cells ({ frames := 9, cells := 6, slots := 16, locals := 150 } : Room).slots) := by
  refine own_met (Q := own_Qsai Z a1 s1 s2 r0 dc j1 j2 j3 al mc0 el n mc w dd lz ez em mr h0 n0) (plainFor_of_name own_pn12) ?_
  intro p e s m below meth c s₁ K hx hby hml hown hnm hret hZ X0 e0 hK
  have hown : s.vm.findClass "com/example/skyroster/skyroster/Satellite" = some m.cls := hown
  have hnm : meth.name = "<init>" := hnm
  have N0 := Fr.nil n0
  refine own_by (fun t k => castTop (own_efsai m a1 s1 s2 r0 dc j1 j2 j3 al) k) ?_
  show own_Go p.tables e below K (s₁.setTop (mkF m 0 #[.val (.ref a1), .val (.ref s1), .val (.ref s2), .val (.ref r0), .val (.double dc), .second, .val (.long j1), .second, .val (.long j2), .second, .val (.long j3), .second, .val (.ref al)] []))
  refine own_by (fun t k => XS.aloadN X0.here hx rfl (hb hby own_d12_0) rfl rfl k) ?_
  show own_Go p.tables e below K (s₁.setTop (mkF m 1 #[.val (.ref a1), .val (.ref s1), .val (.ref s2), .val (.ref r0), .val (.double dc), .second, .val (.long j1), .second, .val (.long j2), .second, .val (.long j3), .second, .val (.ref al)] [(.ref a1)]))
  obtain ⟨_, _, ⟨T147, L147, k147, n147⟩, -, X147, ⟨Lc147, hQ147, l147, y147, z147⟩, st147⟩ := X0.specialBack hx (y := (⟨"java/lang/Record", "<init>", "()V"⟩ : MethodName)) rfl hown (mvT hZ (hw _ (List.mem_of_getElem? (i := 91) rfl))) (mvT hZ (hw _ (List.mem_of_getElem? (i := 9) rfl))) (mvT hZ (hw _ (List.mem_of_getElem? (i := 12) rfl))) (by decide) (backOf (W := 0) (own_rmrci l Z aw hw [] a1 h0 n0 Z0) hZ (hw _ (List.mem_of_getElem? (i := 12) rfl)) (hw _ (List.mem_of_getElem? (i := 11) rfl)) (by decide) (by decide)) (g := (mkF m 1 #[.val (.ref a1), .val (.ref s1), .val (.ref s2), .val (.ref r0), .val (.double dc), .second, .val (.long j1), .second, .val (.long j2), .second, .val (.long j3), .second, .val (.ref al)] [(.ref a1)])) rfl (by rw [hml]; rfl) (Steps.refl _) (a := a1) (argsL := []) (rest := []) (lenOf own_pd0 rfl) rfl (by show 2 * 0 + _ ≤ _; exact Nat.le_of_eq rfl) (hb hby own_d12_1) (fun _ _ => ⟨rfl, e0, (by decide : 0 + 0 ≤ _), (by decide : 0 + 0 ≤ _)⟩)
  dsimp only [Pt.U, Pt.locs, Pt.cells, Pt.slots] at X147 l147 y147 z147 st147 hQ147
  subst l147 y147 z147
  obtain ⟨rfl, N147q, e147⟩ := hQ147
  have N147 := Fr.app N0 N147q
  refine own_by (fun t k => st147.trans k) ?_
  show own_Go p.tables e below K (T147.setTop (mkF m 4 #[.val (.ref a1), .val (.ref s1), .val (.ref s2), .val (.ref r0), .val (.double dc), .second, .val (.long j1), .second, .val (.long j2), .second, .val (.long j3), .second, .val (.ref al)] []))
  refine own_by (fun t k => XS.aloadN X147.here hx rfl (hb hby own_d12_4) rfl rfl k) ?_
  show own_Go p.tables e below K (T147.setTop (mkF m 5 #[.val (.ref a1), .val (.ref s1), .val (.ref s2), .val (.ref r0), .val (.double dc), .second, .val (.long j1), .second, .val (.long j2), .second, .val (.long j3), .second, .val (.ref al)] [(.ref r0)]))
  obtain ⟨_, _, ⟨T148, L148, k148, n148⟩, -, X148, ⟨Lc148, hQ148, l148, y148, z148⟩, st148⟩ := Jvm.LawKit.callS X147 hx (y := (⟨"java/util/List", "copyOf", "(Ljava/util/Collection;)Ljava/util/List;"⟩ : MethodName)) hown (mvT hZ (hw _ (List.mem_of_getElem? (i := 92) rfl))) (mvT hZ (hw _ (List.mem_of_getElem? (i := 93) rfl))) (mvT hZ (hw _ (List.mem_of_getElem? (i := 94) rfl))) (mvT hZ (hw _ (List.mem_of_getElem? (i := 95) rfl))) (by decide) (backOf (W := 0) (own_rmcpy l Z aw hw [] r0 dd 0 mc0 w dd lz ez em mr h0 n0 Z0 ⟨B1.1, B1.2.1, B1.2.2.1, B1.2.2.2⟩ (Or.inl ⟨rfl, S0.2.1.ext O0.2⟩) O0 S0) hZ (hw _ (List.mem_of_getElem? (i := 95) rfl)) (hw _ (List.mem_of_getElem? (i := 94) rfl)) (by decide) (by decide)) (g := (mkF m 5 #[.val (.ref a1), .val (.ref s1), .val (.ref s2), .val (.ref r0), .val (.double dc), .second, .val (.long j1), .second, .val (.long j2), .second, .val (.long j3), .second, .val (.ref al)] [(.ref r0)])) rfl (by rw [hml]; rfl) (argsL := [(.ref r0)]) (rest := []) (lenOf own_pd14 rfl) rfl (by show 2 * 0 + _ ≤ _; exact Nat.le_of_eq rfl) (hb hby own_d12_5) (fun _ _ => ⟨rfl, e147, (by decide : 0 + 3 ≤ _), (by decide : 0 + 8 ≤ _)⟩)
  dsimp only [Pt.U, Pt.locs, Pt.cells, Pt.slots] at X148 l148 y148 z148 st148 hQ148
  subst l148 y148 z148
  obtain ⟨lw148, rfl, N148q, Kp148, -⟩ := hQ148
  have N148 := Fr.app N147 N148q
  refine own_by st148 ?_
  have xa148_el := A0.keep Kp148 nin0
  have F148_id_a1 := F0_id.keep Kp148 nin0
  have F148_name_a1 := F0_name.keep Kp148 nin0
  have F148_payloads_a1 := F0_payloads.keep Kp148 nin0
  have F148_costCoefficient_a1 := F0_costCoefficient.keep Kp148 nin0
  have F148_minGapS_a1 := F0_minGapS.keep Kp148 nin0
  have F148_maxOrbitS_a1 := F0_maxOrbitS.keep Kp148 nin0
  have F148_maxDayS_a1 := F0_maxDayS.keep Kp148 nin0
  have F148_usedWindows_a1 := F0_usedWindows.keep Kp148 nin0
  have F148_modCount_r0 := B1.2.1.keep Kp148 nin0
  have F148_elementData_r0 := B1.2.2.1.keep Kp148 nin0
  have F148_size_r0 := B1.2.2.2.keep Kp148 nin0
  have F148_modCount_al := B0.2.1.keep Kp148 nin0
  have F148_elementData_al := B0.2.2.1.keep Kp148 nin0
  have F148_size_al := B0.2.2.2.keep Kp148 nin0
  have Ex148_a1 := E0.keep Kp148
  have Ex148_r0 := B1.1.keep Kp148
  have Ex148_al := B0.1.keep Kp148
  have K148 := (Keep.refl h0 [a1]).trans Kp148 (all0)
  have Z148 := Nat.le_trans Z0 Kp148.1
  have O148 := O0.keep Kp148 (all0)
  show own_Go p.tables e below K (T148.setTop (mkF m 8 #[.val (.ref a1), .val (.ref s1), .val (.ref s2), .val (.ref r0), .val (.double dc), .second, .val (.long j1), .second, .val (.long j2), .second, .val (.long j3), .second, .val (.ref al)] [(.ref lw148)]))
  refine own_by (fun t k => XS.astoreN X148.here hx rfl (hb hby own_d12_8) rfl rfl (l' := #[.val (.ref a1), .val (.ref s1), .val (.ref s2), .val (.ref lw148), .val (.double dc), .second, .val (.long j1), .second, .val (.long j2), .second, .val (.long j3), .second, .val (.ref al)]) rfl k) ?_
  show own_Go p.tables e below K (T148.setTop (mkF m 9 #[.val (.ref a1), .val (.ref s1), .val (.ref s2), .val (.ref lw148), .val (.double dc), .second, .val (.long j1), .second, .val (.long j2), .second, .val (.long j3), .second, .val (.ref al)] []))
  refine own_by (fun t k => XS.aload X148.here hx rfl (hb hby own_d12_9) rfl rfl k) ?_
  show own_Go p.tables e below K (T148.setTop (mkF m 11 #[.val (.ref a1), .val (.ref s1), .val (.ref s2), .val (.ref lw148), .val (.double dc), .second, .val (.long j1), .second, .val (.long j2), .second, .val (.long j3), .second, .val (.ref al)] [(.ref al)]))
  obtain ⟨_, _, ⟨T149, L149, k149, n149⟩, -, X149, ⟨Lc149, hQ149, l149, y149, z149⟩, st149⟩ := Jvm.LawKit.callS X148 hx (y := (⟨"java/util/List", "copyOf", "(Ljava/util/Collection;)Ljava/util/List;"⟩ : MethodName)) hown (mvT hZ (hw _ (List.mem_of_getElem? (i := 92) rfl))) (mvT hZ (hw _ (List.mem_of_getElem? (i := 93) rfl))) (mvT hZ (hw _ (List.mem_of_getElem? (i := 94) rfl))) (mvT hZ (hw _ (List.mem_of_getElem? (i := 95) rfl))) (by decide) (backOf (W := 0) (own_rmcpy l Z aw hw [] al el n mc w dd lz ez em mr T148.heap n0 Z148 ⟨Ex148_al, F148_modCount_al, F148_elementData_al, F148_size_al⟩ xa148_el O148 S0) hZ (hw _ (List.mem_of_getElem? (i := 95) rfl)) (hw _ (List.mem_of_getElem? (i := 94) rfl)) (by decide) (by decide)) (g := (mkF m 11 #[.val (.ref a1), .val (.ref s1), .val (.ref s2), .val (.ref lw148), .val (.double dc), .second, .val (.long j1), .second, .val (.long j2), .second, .val (.long j3), .second, .val (.ref al)] [(.ref al)])) rfl (by rw [hml]; rfl) (argsL := [(.ref al)]) (rest := []) (lenOf own_pd14 rfl) rfl (by show 2 * 0 + _ ≤ _; exact Nat.le_of_eq rfl) (hb hby own_d12_11) (fun _ _ => ⟨rfl, rfl, (by decide : 3 + 3 ≤ _), (by decide : 8 + 8 ≤ _)⟩)
  dsimp only [Pt.U, Pt.locs, Pt.cells, Pt.slots] at X149 l149 y149 z149 st149 hQ149
  subst l149 y149 z149
  obtain ⟨lw149, rfl, N149q, Kp149, sp149⟩ := hQ149
  have N149 := Fr.app N148 N149q
  refine own_by st149 ?_
  have xa149_el := xa148_el.keep Kp149 nin0
  have F149_id_a1 := F148_id_a1.keep Kp149 nin0
  have F149_name_a1 := F148_name_a1.keep Kp149 nin0
  have F149_payloads_a1 := F148_payloads_a1.keep Kp149 nin0
  have F149_costCoefficient_a1 := F148_costCoefficient_a1.keep Kp149 nin0
  have F149_minGapS_a1 := F148_minGapS_a1.keep Kp149 nin0
  have F149_maxOrbitS_a1 := F148_maxOrbitS_a1.keep Kp149 nin0
  have F149_maxDayS_a1 := F148_maxDayS_a1.keep Kp149 nin0
  have F149_usedWindows_a1 := F148_usedWindows_a1.keep Kp149 nin0
  have F149_modCount_r0 := F148_modCount_r0.keep Kp149 nin0
  have F149_elementData_r0 := F148_elementData_r0.keep Kp149 nin0
  have F149_size_r0 := F148_size_r0.keep Kp149 nin0
  have F149_modCount_al := F148_modCount_al.keep Kp149 nin0
  have F149_elementData_al := F148_elementData_al.keep Kp149 nin0
  have F149_size_al := F148_size_al.keep Kp149 nin0
  have Ex149_a1 := Ex148_a1.keep Kp149
  have Ex149_r0 := Ex148_r0.keep Kp149
  have Ex149_al := Ex148_al.keep Kp149
  have K149 := K148.trans Kp149 (all0)
  have Z149 := Nat.le_trans Z148 Kp149.1
  have O149 := O148.keep Kp149 (all0)
  have ne_a1_lw149 : a1 ≠ lw149 := own_SZ.ne Ex149_a1 sp149 (by decide) (by decide)
  show own_Go p.tables e below K (T149.setTop (mkF m 14 #[.val (.ref a1), .val (.ref s1), .val (.ref s2), .val (.ref lw148), .val (.double dc), .second, .val (.long j1), .second, .val (.long j2), .second, .val (.long j3), .second, .val (.ref al)] [(.ref lw149)]))
  refine own_by (fun t k => XS.astore X149.here hx rfl (hb hby own_d12_14) rfl rfl (l' := #[.val (.ref a1), .val (.ref s1), .val (.ref s2), .val (.ref lw148), .val (.double dc), .second, .val (.long j1), .second, .val (.long j2), .second, .val (.long j3), .second, .val (.ref lw149)]) rfl k) ?_
  show own_Go p.tables e below K (T149.setTop (mkF m 16 #[.val (.ref a1), .val (.ref s1), .val (.ref s2), .val (.ref lw148), .val (.double dc), .second, .val (.long j1), .second, .val (.long j2), .second, .val (.long j3), .second, .val (.ref lw149)] []))
  refine own_by (fun t k => XS.aloadN X149.here hx rfl (hb hby own_d12_16) rfl rfl k) ?_
  show own_Go p.tables e below K (T149.setTop (mkF m 17 #[.val (.ref a1), .val (.ref s1), .val (.ref s2), .val (.ref lw148), .val (.double dc), .second, .val (.long j1), .second, .val (.long j2), .second, .val (.long j3), .second, .val (.ref lw149)] [(.ref a1)]))
  refine own_by (fun t k => XS.aloadN X149.here hx rfl (hb hby own_d12_17) rfl rfl k) ?_
  show own_Go p.tables e below K (T149.setTop (mkF m 18 #[.val (.ref a1), .val (.ref s1), .val (.ref s2), .val (.ref lw148), .val (.double dc), .second, .val (.long j1), .second, .val (.long j2), .second, .val (.long j3), .second, .val (.ref lw149)] [(.ref s1), (.ref a1)]))
  obtain ⟨T150, h150, X150, e150, W150, st150⟩ := putF X149 hx hZ hown (host := "") (Or.inl (hw _ (List.mem_of_getElem? (i := 184) rfl))) Via.refl rfl F149_id_a1 Ex149_a1 (Or.inr ⟨(hw _ (List.mem_of_getElem? (i := 185) rfl)), rfl, hnm⟩) (hw _ (List.mem_of_getElem? (i := 78) rfl)) (ty := (.object "java/lang/String")) (by decide) rfl rfl (g := (mkF m 18 #[.val (.ref a1), .val (.ref s1), .val (.ref s2), .val (.ref lw148), .val (.double dc), .second, .val (.long j1), .second, .val (.long j2), .second, .val (.long j3), .second, .val (.ref lw149)] [(.ref s1), (.ref a1)])) rfl rfl (hb hby own_d12_18)
  refine own_by st150 ?_
  have F150_id_a1 := F149_id_a1.same W150
  have F150_name_a1 := F149_name_a1.other W150 (Or.inr (slot_ne (Or.inr (hw _ (List.mem_of_getElem? (i := 187) rfl))) (Or.inr (hw _ (List.mem_of_getElem? (i := 185) rfl))) (by decide) (t := (.object "java/lang/String")) (t' := (.object "java/lang/String")) (by decide) (by decide)))
  have F150_payloads_a1 := F149_payloads_a1.other W150 (Or.inr (slot_ne (Or.inr (hw _ (List.mem_of_getElem? (i := 189) rfl))) (Or.inr (hw _ (List.mem_of_getElem? (i := 185) rfl))) (by decide) (t := (.object "java/util/List")) (t' := (.object "java/lang/String")) (by decide) (by decide)))
  have F150_costCoefficient_a1 := F149_costCoefficient_a1.other W150 (Or.inr (slot_ne (Or.inr (hw _ (List.mem_of_getElem? (i := 191) rfl))) (Or.inr (hw _ (List.mem_of_getElem? (i := 185) rfl))) (by decide) (t := .double) (t' := (.object "java/lang/String")) (by decide) (by decide)))
  have F150_minGapS_a1 := F149_minGapS_a1.other W150 (Or.inr (slot_ne (Or.inr (hw _ (List.mem_of_getElem? (i := 193) rfl))) (Or.inr (hw _ (List.mem_of_getElem? (i := 185) rfl))) (by decide) (t := .long) (t' := (.object "java/lang/String")) (by decide) (by decide)))
  have F150_maxOrbitS_a1 := F149_maxOrbitS_a1.other W150 (Or.inr (slot_ne (Or.inr (hw _ (List.mem_of_getElem? (i := 195) rfl))) (Or.inr (hw _ (List.mem_of_getElem? (i := 185) rfl))) (by decide) (t := .long) (t' := (.object "java/lang/String")) (by decide) (by decide)))
  have F150_maxDayS_a1 := F149_maxDayS_a1.other W150 (Or.inr (slot_ne (Or.inr (hw _ (List.mem_of_getElem? (i := 197) rfl))) (Or.inr (hw _ (List.mem_of_getElem? (i := 185) rfl))) (by decide) (t := .long) (t' := (.object "java/lang/String")) (by decide) (by decide)))
  have F150_usedWindows_a1 := F149_usedWindows_a1.other W150 (Or.inr (slot_ne (Or.inr (hw _ (List.mem_of_getElem? (i := 199) rfl))) (Or.inr (hw _ (List.mem_of_getElem? (i := 185) rfl))) (by decide) (t := (.object "java/util/List")) (t' := (.object "java/lang/String")) (by decide) (by decide)))
  have F150_modCount_r0 := F149_modCount_r0.other W150 (Or.inl (Exa.ne Ex149_r0 Ex149_a1 (by decide)))
  have F150_elementData_r0 := F149_elementData_r0.other W150 (Or.inl (Exa.ne Ex149_r0 Ex149_a1 (by decide)))
  have F150_size_r0 := F149_size_r0.other W150 (Or.inl (Exa.ne Ex149_r0 Ex149_a1 (by decide)))
  have F150_modCount_al := F149_modCount_al.other W150 (Or.inl (Exa.ne Ex149_al Ex149_a1 (by decide)))
  have F150_elementData_al := F149_elementData_al.other W150 (Or.inl (Exa.ne Ex149_al Ex149_a1 (by decide)))
  have F150_size_al := F149_size_al.other W150 (Or.inl (Exa.ne Ex149_al Ex149_a1 (by decide)))
  have xa150_el := xa149_el.other W150 (Ne.symm (own_Vs.ne Ex149_a1 xa149_el (hw _ (List.mem_of_getElem? (i := 78) rfl))))
  have xa150_lw149 := sp149.other W150 (Ne.symm ne_a1_lw149)
  have Ex150_a1 := Ex149_a1.wr W150
  have Ex150_r0 := Ex149_r0.wr W150
  have Ex150_al := Ex149_al.wr W150
  have K150 := K149.wr W150 (Or.inl (by simp))
  have Z150 := Nat.le_trans Z149 (Keep.of_wr W150).1
  have O150 := O149.wr W150 ga
  have N150 := Fr.snoc X150 N149 ga
  show own_Go p.tables e below K (T150.setTop (mkF m 21 #[.val (.ref a1), .val (.ref s1), .val (.ref s2), .val (.ref lw148), .val (.double dc), .second, .val (.long j1), .second, .val (.long j2), .second, .val (.long j3), .second, .val (.ref lw149)] []))
  refine own_by (fun t k => XS.aloadN X150.here hx rfl (hb hby own_d12_21) rfl rfl k) ?_
  show own_Go p.tables e below K (T150.setTop (mkF m 22 #[.val (.ref a1), .val (.ref s1), .val (.ref s2), .val (.ref lw148), .val (.double dc), .second, .val (.long j1), .second, .val (.long j2), .second, .val (.long j3), .second, .val (.ref lw149)] [(.ref a1)]))
  refine own_by (fun t k => XS.aloadN X150.here hx rfl (hb hby own_d12_22) rfl rfl k) ?_
  show own_Go p.tables e below K (T150.setTop (mkF m 23 #[.val (.ref a1), .val (.ref s1), .val (.ref s2), .val (.ref lw148), .val (.double dc), .second, .val (.long j1), .second, .val (.long j2), .second, .val (.long j3), .second, .val (.ref lw149)] [(.ref s2), (.ref a1)]))
  obtain ⟨T151, h151, X151, e151, W151, st151⟩ := putF X150 hx hZ hown (host := "") (Or.inl (hw _ (List.mem_of_getElem? (i := 186) rfl))) Via.refl e150 F150_name_a1 Ex150_a1 (Or.inr ⟨(hw _ (List.mem_of_getElem? (i := 187) rfl)), rfl, hnm⟩) (hw _ (List.mem_of_getElem? (i := 78) rfl)) (ty := (.object "java/lang/String")) (by decide) rfl rfl (g := (mkF m 23 #[.val (.ref a1), .val (.ref s1), .val (.ref s2), .val (.ref lw148), .val (.double dc), .second, .val (.long j1), .second, .val (.long j2), .second, .val (.long j3), .second, .val (.ref lw149)] [(.ref s2), (.ref a1)])) rfl rfl (hb hby own_d12_23)
  refine own_by st151 ?_
  have F151_id_a1 := F150_id_a1.other W151 (Or.inr (slot_ne (Or.inr (hw _ (List.mem_of_getElem? (i := 185) rfl))) (Or.inr (hw _ (List.mem_of_getElem? (i := 187) rfl))) (by decide) (t := (.object "java/lang/String")) (t' := (.object "java/lang/String")) (by decide) (by decide)))
  have F151_name_a1 := F150_name_a1.same W151
  have F151_payloads_a1 := F150_payloads_a1.other W151 (Or.inr (slot_ne (Or.inr (hw _ (List.mem_of_getElem? (i := 189) rfl))) (Or.inr (hw _ (List.mem_of_getElem? (i := 187) rfl))) (by decide) (t := (.object "java/util/List")) (t' := (.object "java/lang/String")) (by decide) (by decide)))
  have F151_costCoefficient_a1 := F150_costCoefficient_a1.other W151 (Or.inr (slot_ne (Or.inr (hw _ (List.mem_of_getElem? (i := 191) rfl))) (Or.inr (hw _ (List.mem_of_getElem? (i := 187) rfl))) (by decide) (t := .double) (t' := (.object "java/lang/String")) (by decide) (by decide)))
  have F151_minGapS_a1 := F150_minGapS_a1.other W151 (Or.inr (slot_ne (Or.inr (hw _ (List.mem_of_getElem? (i := 193) rfl))) (Or.inr (hw _ (List.mem_of_getElem? (i := 187) rfl))) (by decide) (t := .long) (t' := (.object "java/lang/String")) (by decide) (by decide)))
  have F151_maxOrbitS_a1 := F150_maxOrbitS_a1.other W151 (Or.inr (slot_ne (Or.inr (hw _ (List.mem_of_getElem? (i := 195) rfl))) (Or.inr (hw _ (List.mem_of_getElem? (i := 187) rfl))) (by decide) (t := .long) (t' := (.object "java/lang/String")) (by decide) (by decide)))
  have F151_maxDayS_a1 := F150_maxDayS_a1.other W151 (Or.inr (slot_ne (Or.inr (hw _ (List.mem_of_getElem? (i := 197) rfl))) (Or.inr (hw _ (List.mem_of_getElem? (i := 187) rfl))) (by decide) (t := .long) (t' := (.object "java/lang/String")) (by decide) (by decide)))
  have F151_usedWindows_a1 := F150_usedWindows_a1.other W151 (Or.inr (slot_ne (Or.inr (hw _ (List.mem_of_getElem? (i := 199) rfl))) (Or.inr (hw _ (List.mem_of_getElem? (i := 187) rfl))) (by decide) (t := (.object "java/util/List")) (t' := (.object "java/lang/String")) (by decide) (by decide)))
  have F151_modCount_r0 := F150_modCount_r0.other W151 (Or.inl (Exa.ne Ex150_r0 Ex150_a1 (by decide)))
  have F151_elementData_r0 := F150_elementData_r0.other W151 (Or.inl (Exa.ne Ex150_r0 Ex150_a1 (by decide)))
  have F151_size_r0 := F150_size_r0.other W151 (Or.inl (Exa.ne Ex150_r0 Ex150_a1 (by decide)))
  have F151_modCount_al := F150_modCount_al.other W151 (Or.inl (Exa.ne Ex150_al Ex150_a1 (by decide)))
  have F151_elementData_al := F150_elementData_al.other W151 (Or.inl (Exa.ne Ex150_al Ex150_a1 (by decide)))
  have F151_size_al := F150_size_al.other W151 (Or.inl (Exa.ne Ex150_al Ex150_a1 (by decide)))
  have xa151_el := xa150_el.other W151 (Ne.symm (own_Vs.ne Ex150_a1 xa150_el (hw _ (List.mem_of_getElem? (i := 78) rfl))))
  have xa151_lw149 := xa150_lw149.other W151 (Ne.symm ne_a1_lw149)
  have Ex151_a1 := Ex150_a1.wr W151
  have Ex151_r0 := Ex150_r0.wr W151
  have Ex151_al := Ex150_al.wr W151
  have K151 := K150.wr W151 (Or.inl (by simp))
  have Z151 := Nat.le_trans Z150 (Keep.of_wr W151).1
  have O151 := O150.wr W151 ga
  have N151 := Fr.snoc X151 N150 ga
  show own_Go p.tables e below K (T151.setTop (mkF m 26 #[.val (.ref a1), .val (.ref s1), .val (.ref s2), .val (.ref lw148), .val (.double dc), .second, .val (.long j1), .second, .val (.long j2), .second, .val (.long j3), .second, .val (.ref lw149)] []))
  refine own_by (fun t k => XS.aloadN X151.here hx rfl (hb hby own_d12_26) rfl rfl k) ?_
  show own_Go p.tables e below K (T151.setTop (mkF m 27 #[.val (.ref a1), .val (.ref s1), .val (.ref s2), .val (.ref lw148), .val (.double dc), .second, .val (.long j1), .second, .val (.long j2), .second, .val (.long j3), .second, .val (.ref lw149)] [(.ref a1)]))
  refine own_by (fun t k => XS.aloadN X151.here hx rfl (hb hby own_d12_27) rfl rfl k) ?_
  show own_Go p.tables e below K (T151.setTop (mkF m 28 #[.val (.ref a1), .val (.ref s1), .val (.ref s2), .val (.ref lw148), .val (.double dc), .second, .val (.long j1), .second, .val (.long j2), .second, .val (.long j3), .second, .val (.ref lw149)] [(.ref lw148), (.ref a1)]))
  obtain ⟨T152, h152, X152, e152, W152, st152⟩ := putF X151 hx hZ hown (host := "") (Or.inl (hw _ (List.mem_of_getElem? (i := 188) rfl))) Via.refl e151 F151_payloads_a1 Ex151_a1 (Or.inr ⟨(hw _ (List.mem_of_getElem? (i := 189) rfl)), rfl, hnm⟩) (hw _ (List.mem_of_getElem? (i := 78) rfl)) (ty := (.object "java/util/List")) (by decide) rfl rfl (g := (mkF m 28 #[.val (.ref a1), .val (.ref s1), .val (.ref s2), .val (.ref lw148), .val (.double dc), .second, .val (.long j1), .second, .val (.long j2), .second, .val (.long j3), .second, .val (.ref lw149)] [(.ref lw148), (.ref a1)])) rfl rfl (hb hby own_d12_28)
  refine own_by st152 ?_
  have F152_id_a1 := F151_id_a1.other W152 (Or.inr (slot_ne (Or.inr (hw _ (List.mem_of_getElem? (i := 185) rfl))) (Or.inr (hw _ (List.mem_of_getElem? (i := 189) rfl))) (by decide) (t := (.object "java/lang/String")) (t' := (.object "java/util/List")) (by decide) (by decide)))
  have F152_name_a1 := F151_name_a1.other W152 (Or.inr (slot_ne (Or.inr (hw _ (List.mem_of_getElem? (i := 187) rfl))) (Or.inr (hw _ (List.mem_of_getElem? (i := 189) rfl))) (by decide) (t := (.object "java/lang/String")) (t' := (.object "java/util/List")) (by decide) (by decide)))
  have F152_payloads_a1 := F151_payloads_a1.same W152
  have F152_costCoefficient_a1 := F151_costCoefficient_a1.other W152 (Or.inr (slot_ne (Or.inr (hw _ (List.mem_of_getElem? (i := 191) rfl))) (Or.inr (hw _ (List.mem_of_getElem? (i := 189) rfl))) (by decide) (t := .double) (t' := (.object "java/util/List")) (by decide) (by decide)))
  have F152_minGapS_a1 := F151_minGapS_a1.other W152 (Or.inr (slot_ne (Or.inr (hw _ (List.mem_of_getElem? (i := 193) rfl))) (Or.inr (hw _ (List.mem_of_getElem? (i := 189) rfl))) (by decide) (t := .long) (t' := (.object "java/util/List")) (by decide) (by decide)))
  have F152_maxOrbitS_a1 := F151_maxOrbitS_a1.other W152 (Or.inr (slot_ne (Or.inr (hw _ (List.mem_of_getElem? (i := 195) rfl))) (Or.inr (hw _ (List.mem_of_getElem? (i := 189) rfl))) (by decide) (t := .long) (t' := (.object "java/util/List")) (by decide) (by decide)))
  have F152_maxDayS_a1 := F151_maxDayS_a1.other W152 (Or.inr (slot_ne (Or.inr (hw _ (List.mem_of_getElem? (i := 197) rfl))) (Or.inr (hw _ (List.mem_of_getElem? (i := 189) rfl))) (by decide) (t := .long) (t' := (.object "java/util/List")) (by decide) (by decide)))
  have F152_usedWindows_a1 := F151_usedWindows_a1.other W152 (Or.inr (slot_ne (Or.inr (hw _ (List.mem_of_getElem? (i := 199) rfl))) (Or.inr (hw _ (List.mem_of_getElem? (i := 189) rfl))) (by decide) (t := (.object "java/util/List")) (t' := (.object "java/util/List")) (by decide) (by decide)))
  have F152_modCount_r0 := F151_modCount_r0.other W152 (Or.inl (Exa.ne Ex151_r0 Ex151_a1 (by decide)))
  have F152_elementData_r0 := F151_elementData_r0.other W152 (Or.inl (Exa.ne Ex151_r0 Ex151_a1 (by decide)))
  have F152_size_r0 := F151_size_r0.other W152 (Or.inl (Exa.ne Ex151_r0 Ex151_a1 (by decide)))
  have F152_modCount_al := F151_modCount_al.other W152 (Or.inl (Exa.ne Ex151_al Ex151_a1 (by decide)))
  have F152_elementData_al := F151_elementData_al.other W152 (Or.inl (Exa.ne Ex151_al Ex151_a1 (by decide)))
  have F152_size_al := F151_size_al.other W152 (Or.inl (Exa.ne Ex151_al Ex151_a1 (by decide)))
  have xa152_el := xa151_el.other W152 (Ne.symm (own_Vs.ne Ex151_a1 xa151_el (hw _ (List.mem_of_getElem? (i := 78) rfl))))
  have xa152_lw149 := xa151_lw149.other W152 (Ne.symm ne_a1_lw149)
  have Ex152_a1 := Ex151_a1.wr W152
  have Ex152_r0 := Ex151_r0.wr W152
  have Ex152_al := Ex151_al.wr W152
  have K152 := K151.wr W152 (Or.inl (by simp))
  have Z152 := Nat.le_trans Z151 (Keep.of_wr W152).1
  have O152 := O151.wr W152 ga
  have N152 := Fr.snoc X152 N151 ga
  show own_Go p.tables e below K (T152.setTop (mkF m 31 #[.val (.ref a1), .val (.ref s1), .val (.ref s2), .val (.ref lw148), .val (.double dc), .second, .val (.long j1), .second, .val (.long j2), .second, .val (.long j3), .second, .val (.ref lw149)] []))
  refine own_by (fun t k => XS.aloadN X152.here hx rfl (hb hby own_d12_31) rfl rfl k) ?_
  show own_Go p.tables e below K (T152.setTop (mkF m 32 #[.val (.ref a1), .val (.ref s1), .val (.ref s2), .val (.ref lw148), .val (.double dc), .second, .val (.long j1), .second, .val (.long j2), .second, .val (.long j3), .second, .val (.ref lw149)] [(.ref a1)]))
  refine own_by (fun t k => XS.dload X152.here hx rfl (hb hby own_d12_32) rfl k) ?_
  show own_Go p.tables e below K (T152.setTop (mkF m 34 #[.val (.ref a1), .val (.ref s1), .val (.ref s2), .val (.ref lw148), .val (.double dc), .second, .val (.long j1), .second, .val (.long j2), .second, .val (.long j3), .second, .val (.ref lw149)] [(.double dc), (.ref a1)]))
  obtain ⟨T153, h153, X153, e153, W153, st153⟩ := putF X152 hx hZ hown (host := "") (Or.inl (hw _ (List.mem_of_getElem? (i := 190) rfl))) Via.refl e152 F152_costCoefficient_a1 Ex152_a1 (Or.inr ⟨(hw _ (List.mem_of_getElem? (i := 191) rfl)), rfl, hnm⟩) (hw _ (List.mem_of_getElem? (i := 78) rfl)) (ty := .double) (by decide) rfl rfl (g := (mkF m 34 #[.val (.ref a1), .val (.ref s1), .val (.ref s2), .val (.ref lw148), .val (.double dc), .second, .val (.long j1), .second, .val (.long j2), .second, .val (.long j3), .second, .val (.ref lw149)] [(.double dc), (.ref a1)])) rfl rfl (hb hby own_d12_34)
  refine own_by st153 ?_
  have F153_id_a1 := F152_id_a1.other W153 (Or.inr (slot_ne (Or.inr (hw _ (List.mem_of_getElem? (i := 185) rfl))) (Or.inr (hw _ (List.mem_of_getElem? (i := 191) rfl))) (by decide) (t := (.object "java/lang/String")) (t' := .double) (by decide) (by decide)))
  have F153_name_a1 := F152_name_a1.other W153 (Or.inr (slot_ne (Or.inr (hw _ (List.mem_of_getElem? (i := 187) rfl))) (Or.inr (hw _ (List.mem_of_getElem? (i := 191) rfl))) (by decide) (t := (.object "java/lang/String")) (t' := .double) (by decide) (by decide)))
  have F153_payloads_a1 := F152_payloads_a1.other W153 (Or.inr (slot_ne (Or.inr (hw _ (List.mem_of_getElem? (i := 189) rfl))) (Or.inr (hw _ (List.mem_of_getElem? (i := 191) rfl))) (by decide) (t := (.object "java/util/List")) (t' := .double) (by decide) (by decide)))
  have F153_costCoefficient_a1 := F152_costCoefficient_a1.same W153
  have F153_minGapS_a1 := F152_minGapS_a1.other W153 (Or.inr (slot_ne (Or.inr (hw _ (List.mem_of_getElem? (i := 193) rfl))) (Or.inr (hw _ (List.mem_of_getElem? (i := 191) rfl))) (by decide) (t := .long) (t' := .double) (by decide) (by decide)))
  have F153_maxOrbitS_a1 := F152_maxOrbitS_a1.other W153 (Or.inr (slot_ne (Or.inr (hw _ (List.mem_of_getElem? (i := 195) rfl))) (Or.inr (hw _ (List.mem_of_getElem? (i := 191) rfl))) (by decide) (t := .long) (t' := .double) (by decide) (by decide)))
  have F153_maxDayS_a1 := F152_maxDayS_a1.other W153 (Or.inr (slot_ne (Or.inr (hw _ (List.mem_of_getElem? (i := 197) rfl))) (Or.inr (hw _ (List.mem_of_getElem? (i := 191) rfl))) (by decide) (t := .long) (t' := .double) (by decide) (by decide)))
  have F153_usedWindows_a1 := F152_usedWindows_a1.other W153 (Or.inr (slot_ne (Or.inr (hw _ (List.mem_of_getElem? (i := 199) rfl))) (Or.inr (hw _ (List.mem_of_getElem? (i := 191) rfl))) (by decide) (t := (.object "java/util/List")) (t' := .double) (by decide) (by decide)))
  have F153_modCount_r0 := F152_modCount_r0.other W153 (Or.inl (Exa.ne Ex152_r0 Ex152_a1 (by decide)))
  have F153_elementData_r0 := F152_elementData_r0.other W153 (Or.inl (Exa.ne Ex152_r0 Ex152_a1 (by decide)))
  have F153_size_r0 := F152_size_r0.other W153 (Or.inl (Exa.ne Ex152_r0 Ex152_a1 (by decide)))
  have F153_modCount_al := F152_modCount_al.other W153 (Or.inl (Exa.ne Ex152_al Ex152_a1 (by decide)))
  have F153_elementData_al := F152_elementData_al.other W153 (Or.inl (Exa.ne Ex152_al Ex152_a1 (by decide)))
  have F153_size_al := F152_size_al.other W153 (Or.inl (Exa.ne Ex152_al Ex152_a1 (by decide)))
  have xa153_el := xa152_el.other W153 (Ne.symm (own_Vs.ne Ex152_a1 xa152_el (hw _ (List.mem_of_getElem? (i := 78) rfl))))
  have xa153_lw149 := xa152_lw149.other W153 (Ne.symm ne_a1_lw149)
  have Ex153_a1 := Ex152_a1.wr W153
  have Ex153_r0 := Ex152_r0.wr W153
  have Ex153_al := Ex152_al.wr W153
  have K153 := K152.wr W153 (Or.inl (by simp))
  have Z153 := Nat.le_trans Z152 (Keep.of_wr W153).1
  have O153 := O152.wr W153 ga
  have N153 := Fr.snoc X153 N152 ga
  show own_Go p.tables e below K (T153.setTop (mkF m 37 #[.val (.ref a1), .val (.ref s1), .val (.ref s2), .val (.ref lw148), .val (.double dc), .second, .val (.long j1), .second, .val (.long j2), .second, .val (.long j3), .second, .val (.ref lw149)] []))
  refine own_by (fun t k => XS.aloadN X153.here hx rfl (hb hby own_d12_37) rfl rfl k) ?_
  show own_Go p.tables e below K (T153.setTop (mkF m 38 #[.val (.ref a1), .val (.ref s1), .val (.ref s2), .val (.ref lw148), .val (.double dc), .second, .val (.long j1), .second, .val (.long j2), .second, .val (.long j3), .second, .val (.ref lw149)] [(.ref a1)]))
  refine own_by (fun t k => XS.lload X153.here hx rfl (hb hby own_d12_38) rfl k) ?_
  show own_Go p.tables e below K (T153.setTop (mkF m 40 #[.val (.ref a1), .val (.ref s1), .val (.ref s2), .val (.ref lw148), .val (.double dc), .second, .val (.long j1), .second, .val (.long j2), .second, .val (.long j3), .second, .val (.ref lw149)] [(.long j1), (.ref a1)]))
  obtain ⟨T154, h154, X154, e154, W154, st154⟩ := putF X153 hx hZ hown (host := "") (Or.inl (hw _ (List.mem_of_getElem? (i := 192) rfl))) Via.refl e153 F153_minGapS_a1 Ex153_a1 (Or.inr ⟨(hw _ (List.mem_of_getElem? (i := 193) rfl)), rfl, hnm⟩) (hw _ (List.mem_of_getElem? (i := 78) rfl)) (ty := .long) (by decide) rfl rfl (g := (mkF m 40 #[.val (.ref a1), .val (.ref s1), .val (.ref s2), .val (.ref lw148), .val (.double dc), .second, .val (.long j1), .second, .val (.long j2), .second, .val (.long j3), .second, .val (.ref lw149)] [(.long j1), (.ref a1)])) rfl rfl (hb hby own_d12_40)
  refine own_by st154 ?_
  have F154_id_a1 := F153_id_a1.other W154 (Or.inr (slot_ne (Or.inr (hw _ (List.mem_of_getElem? (i := 185) rfl))) (Or.inr (hw _ (List.mem_of_getElem? (i := 193) rfl))) (by decide) (t := (.object "java/lang/String")) (t' := .long) (by decide) (by decide)))
  have F154_name_a1 := F153_name_a1.other W154 (Or.inr (slot_ne (Or.inr (hw _ (List.mem_of_getElem? (i := 187) rfl))) (Or.inr (hw _ (List.mem_of_getElem? (i := 193) rfl))) (by decide) (t := (.object "java/lang/String")) (t' := .long) (by decide) (by decide)))
  have F154_payloads_a1 := F153_payloads_a1.other W154 (Or.inr (slot_ne (Or.inr (hw _ (List.mem_of_getElem? (i := 189) rfl))) (Or.inr (hw _ (List.mem_of_getElem? (i := 193) rfl))) (by decide) (t := (.object "java/util/List")) (t' := .long) (by decide) (by decide)))
  have F154_costCoefficient_a1 := F153_costCoefficient_a1.other W154 (Or.inr (slot_ne (Or.inr (hw _ (List.mem_of_getElem? (i := 191) rfl))) (Or.inr (hw _ (List.mem_of_getElem? (i := 193) rfl))) (by decide) (t := .double) (t' := .long) (by decide) (by decide)))
  have F154_minGapS_a1 := F153_minGapS_a1.same W154
  have F154_maxOrbitS_a1 := F153_maxOrbitS_a1.other W154 (Or.inr (slot_ne (Or.inr (hw _ (List.mem_of_getElem? (i := 195) rfl))) (Or.inr (hw _ (List.mem_of_getElem? (i := 193) rfl))) (by decide) (t := .long) (t' := .long) (by decide) (by decide)))
  have F154_maxDayS_a1 := F153_maxDayS_a1.other W154 (Or.inr (slot_ne (Or.inr (hw _ (List.mem_of_getElem? (i := 197) rfl))) (Or.inr (hw _ (List.mem_of_getElem? (i := 193) rfl))) (by decide) (t := .long) (t' := .long) (by decide) (by decide)))
  have F154_usedWindows_a1 := F153_usedWindows_a1.other W154 (Or.inr (slot_ne (Or.inr (hw _ (List.mem_of_getElem? (i := 199) rfl))) (Or.inr (hw _ (List.mem_of_getElem? (i := 193) rfl))) (by decide) (t := (.object "java/util/List")) (t' := .long) (by decide) (by decide)))
  have F154_modCount_r0 := F153_modCount_r0.other W154 (Or.inl (Exa.ne Ex153_r0 Ex153_a1 (by decide)))
  have F154_elementData_r0 := F153_elementData_r0.other W154 (Or.inl (Exa.ne Ex153_r0 Ex153_a1 (by decide)))
  have F154_size_r0 := F153_size_r0.other W154 (Or.inl (Exa.ne Ex153_r0 Ex153_a1 (by decide)))
  have F154_modCount_al := F153_modCount_al.other W154 (Or.inl (Exa.ne Ex153_al Ex153_a1 (by decide)))
  have F154_elementData_al := F153_elementData_al.other W154 (Or.inl (Exa.ne Ex153_al Ex153_a1 (by decide)))
  have F154_size_al := F153_size_al.other W154 (Or.inl (Exa.ne Ex153_al Ex153_a1 (by decide)))
  have xa154_el := xa153_el.other W154 (Ne.symm (own_Vs.ne Ex153_a1 xa153_el (hw _ (List.mem_of_getElem? (i := 78) rfl))))
  have xa154_lw149 := xa153_lw149.other W154 (Ne.symm ne_a1_lw149)
  have Ex154_a1 := Ex153_a1.wr W154
  have Ex154_r0 := Ex153_r0.wr W154
  have Ex154_al := Ex153_al.wr W154
  have K154 := K153.wr W154 (Or.inl (by simp))
  have Z154 := Nat.le_trans Z153 (Keep.of_wr W154).1
  have O154 := O153.wr W154 ga
  have N154 := Fr.snoc X154 N153 ga
  show own_Go p.tables e below K (T154.setTop (mkF m 43 #[.val (.ref a1), .val (.ref s1), .val (.ref s2), .val (.ref lw148), .val (.double dc), .second, .val (.long j1), .second, .val (.long j2), .second, .val (.long j3), .second, .val (.ref lw149)] []))
  refine own_by (fun t k => XS.aloadN X154.here hx rfl (hb hby own_d12_43) rfl rfl k) ?_
  show own_Go p.tables e below K (T154.setTop (mkF m 44 #[.val (.ref a1), .val (.ref s1), .val (.ref s2), .val (.ref lw148), .val (.double dc), .second, .val (.long j1), .second, .val (.long j2), .second, .val (.long j3), .second, .val (.ref lw149)] [(.ref a1)]))
  refine own_by (fun t k => XS.lload X154.here hx rfl (hb hby own_d12_44) rfl k) ?_
  show own_Go p.tables e below K (T154.setTop (mkF m 46 #[.val (.ref a1), .val (.ref s1), .val (.ref s2), .val (.ref lw148), .val (.double dc), .second, .val (.long j1), .second, .val (.long j2), .second, .val (.long j3), .second, .val (.ref lw149)] [(.long j2), (.ref a1)]))
  obtain ⟨T155, h155, X155, e155, W155, st155⟩ := putF X154 hx hZ hown (host := "") (Or.inl (hw _ (List.mem_of_getElem? (i := 194) rfl))) Via.refl e154 F154_maxOrbitS_a1 Ex154_a1 (Or.inr ⟨(hw _ (List.mem_of_getElem? (i := 195) rfl)), rfl, hnm⟩) (hw _ (List.mem_of_getElem? (i := 78) rfl)) (ty := .long) (by decide) rfl rfl (g := (mkF m 46 #[.val (.ref a1), .val (.ref s1), .val (.ref s2), .val (.ref lw148), .val (.double dc), .second, .val (.long j1), .second, .val (.long j2), .second, .val (.long j3), .second, .val (.ref lw149)] [(.long j2), (.ref a1)])) rfl rfl (hb hby own_d12_46)
  refine own_by st155 ?_
  have F155_id_a1 := F154_id_a1.other W155 (Or.inr (slot_ne (Or.inr (hw _ (List.mem_of_getElem? (i := 185) rfl))) (Or.inr (hw _ (List.mem_of_getElem? (i := 195) rfl))) (by decide) (t := (.object "java/lang/String")) (t' := .long) (by decide) (by decide)))
  have F155_name_a1 := F154_name_a1.other W155 (Or.inr (slot_ne (Or.inr (hw _ (List.mem_of_getElem? (i := 187) rfl))) (Or.inr (hw _ (List.mem_of_getElem? (i := 195) rfl))) (by decide) (t := (.object "java/lang/String")) (t' := .long) (by decide) (by decide)))
  have F155_payloads_a1 := F154_payloads_a1.other W155 (Or.inr (slot_ne (Or.inr (hw _ (List.mem_of_getElem? (i := 189) rfl))) (Or.inr (hw _ (List.mem_of_getElem? (i := 195) rfl))) (by decide) (t := (.object "java/util/List")) (t' := .long) (by decide) (by decide)))
  have F155_costCoefficient_a1 := F154_costCoefficient_a1.other W155 (Or.inr (slot_ne (Or.inr (hw _ (List.mem_of_getElem? (i := 191) rfl))) (Or.inr (hw _ (List.mem_of_getElem? (i := 195) rfl))) (by decide) (t := .double) (t' := .long) (by decide) (by decide)))
  have F155_minGapS_a1 := F154_minGapS_a1.other W155 (Or.inr (slot_ne (Or.inr (hw _ (List.mem_of_getElem? (i := 193) rfl))) (Or.inr (hw _ (List.mem_of_getElem? (i := 195) rfl))) (by decide) (t := .long) (t' := .long) (by decide) (by decide)))
  have F155_maxOrbitS_a1 := F154_maxOrbitS_a1.same W155
  have F155_maxDayS_a1 := F154_maxDayS_a1.other W155 (Or.inr (slot_ne (Or.inr (hw _ (List.mem_of_getElem? (i := 197) rfl))) (Or.inr (hw _ (List.mem_of_getElem? (i := 195) rfl))) (by decide) (t := .long) (t' := .long) (by decide) (by decide)))
  have F155_usedWindows_a1 := F154_usedWindows_a1.other W155 (Or.inr (slot_ne (Or.inr (hw _ (List.mem_of_getElem? (i := 199) rfl))) (Or.inr (hw _ (List.mem_of_getElem? (i := 195) rfl))) (by decide) (t := (.object "java/util/List")) (t' := .long) (by decide) (by decide)))
  have F155_modCount_r0 := F154_modCount_r0.other W155 (Or.inl (Exa.ne Ex154_r0 Ex154_a1 (by decide)))
  have F155_elementData_r0 := F154_elementData_r0.other W155 (Or.inl (Exa.ne Ex154_r0 Ex154_a1 (by decide)))
  have F155_size_r0 := F154_size_r0.other W155 (Or.inl (Exa.ne Ex154_r0 Ex154_a1 (by decide)))
  have F155_modCount_al := F154_modCount_al.other W155 (Or.inl (Exa.ne Ex154_al Ex154_a1 (by decide)))
  have F155_elementData_al := F154_elementData_al.other W155 (Or.inl (Exa.ne Ex154_al Ex154_a1 (by decide)))
  have F155_size_al := F154_size_al.other W155 (Or.inl (Exa.ne Ex154_al Ex154_a1 (by decide)))
  have xa155_el := xa154_el.other W155 (Ne.symm (own_Vs.ne Ex154_a1 xa154_el (hw _ (List.mem_of_getElem? (i := 78) rfl))))
  have xa155_lw149 := xa154_lw149.other W155 (Ne.symm ne_a1_lw149)
  have Ex155_a1 := Ex154_a1.wr W155
  have Ex155_r0 := Ex154_r0.wr W155
  have Ex155_al := Ex154_al.wr W155
  have K155 := K154.wr W155 (Or.inl (by simp))
  have Z155 := Nat.le_trans Z154 (Keep.of_wr W155).1
  have O155 := O154.wr W155 ga
  have N155 := Fr.snoc X155 N154 ga
  show own_Go p.tables e below K (T155.setTop (mkF m 49 #[.val (.ref a1), .val (.ref s1), .val (.ref s2), .val (.ref lw148), .val (.double dc), .second, .val (.long j1), .second, .val (.long j2), .second, .val (.long j3), .second, .val (.ref lw149)] []))
  refine own_by (fun t k => XS.aloadN X155.here hx rfl (hb hby own_d12_49) rfl rfl k) ?_
  show own_Go p.tables e below K (T155.setTop (mkF m 50 #[.val (.ref a1), .val (.ref s1), .val (.ref s2), .val (.ref lw148), .val (.double dc), .second, .val (.long j1), .second, .val (.long j2), .second, .val (.long j3), .second, .val (.ref lw149)] [(.ref a1)]))
  refine own_by (fun t k => XS.lload X155.here hx rfl (hb hby own_d12_50) rfl k) ?_
  show own_Go p.tables e below K (T155.setTop (mkF m 52 #[.val (.ref a1), .val (.ref s1), .val (.ref s2), .val (.ref lw148), .val (.double dc), .second, .val (.long j1), .second, .val (.long j2), .second, .val (.long j3), .second, .val (.ref lw149)] [(.long j3), (.ref a1)]))
  obtain ⟨T156, h156, X156, e156, W156, st156⟩ := putF X155 hx hZ hown (host := "") (Or.inl (hw _ (List.mem_of_getElem? (i := 196) rfl))) Via.refl e155 F155_maxDayS_a1 Ex155_a1 (Or.inr ⟨(hw _ (List.mem_of_getElem? (i := 197) rfl)), rfl, hnm⟩) (hw _ (List.mem_of_getElem? (i := 78) rfl)) (ty := .long) (by decide) rfl rfl (g := (mkF m 52 #[.val (.ref a1), .val (.ref s1), .val (.ref s2), .val (.ref lw148), .val (.double dc), .second, .val (.long j1), .second, .val (.long j2), .second, .val (.long j3), .second, .val (.ref lw149)] [(.long j3), (.ref a1)])) rfl rfl (hb hby own_d12_52)
  refine own_by st156 ?_
  have F156_id_a1 := F155_id_a1.other W156 (Or.inr (slot_ne (Or.inr (hw _ (List.mem_of_getElem? (i := 185) rfl))) (Or.inr (hw _ (List.mem_of_getElem? (i := 197) rfl))) (by decide) (t := (.object "java/lang/String")) (t' := .long) (by decide) (by decide)))
  have F156_name_a1 := F155_name_a1.other W156 (Or.inr (slot_ne (Or.inr (hw _ (List.mem_of_getElem? (i := 187) rfl))) (Or.inr (hw _ (List.mem_of_getElem? (i := 197) rfl))) (by decide) (t := (.object "java/lang/String")) (t' := .long) (by decide) (by decide)))
  have F156_payloads_a1 := F155_payloads_a1.other W156 (Or.inr (slot_ne (Or.inr (hw _ (List.mem_of_getElem? (i := 189) rfl))) (Or.inr (hw _ (List.mem_of_getElem? (i := 197) rfl))) (by decide) (t := (.object "java/util/List")) (t' := .long) (by decide) (by decide)))
  have F156_costCoefficient_a1 := F155_costCoefficient_a1.other W156 (Or.inr (slot_ne (Or.inr (hw _ (List.mem_of_getElem? (i := 191) rfl))) (Or.inr (hw _ (List.mem_of_getElem? (i := 197) rfl))) (by decide) (t := .double) (t' := .long) (by decide) (by decide)))
  have F156_minGapS_a1 := F155_minGapS_a1.other W156 (Or.inr (slot_ne (Or.inr (hw _ (List.mem_of_getElem? (i := 193) rfl))) (Or.inr (hw _ (List.mem_of_getElem? (i := 197) rfl))) (by decide) (t := .long) (t' := .long) (by decide) (by decide)))
  have F156_maxOrbitS_a1 := F155_maxOrbitS_a1.other W156 (Or.inr (slot_ne (Or.inr (hw _ (List.mem_of_getElem? (i := 195) rfl))) (Or.inr (hw _ (List.mem_of_getElem? (i := 197) rfl))) (by decide) (t := .long) (t' := .long) (by decide) (by decide)))
  have F156_maxDayS_a1 := F155_maxDayS_a1.same W156
  have F156_usedWindows_a1 := F155_usedWindows_a1.other W156 (Or.inr (slot_ne (Or.inr (hw _ (List.mem_of_getElem? (i := 199) rfl))) (Or.inr (hw _ (List.mem_of_getElem? (i := 197) rfl))) (by decide) (t := (.object "java/util/List")) (t' := .long) (by decide) (by decide)))
  have F156_modCount_r0 := F155_modCount_r0.other W156 (Or.inl (Exa.ne Ex155_r0 Ex155_a1 (by decide)))
  have F156_elementData_r0 := F155_elementData_r0.other W156 (Or.inl (Exa.ne Ex155_r0 Ex155_a1 (by decide)))
  have F156_size_r0 := F155_size_r0.other W156 (Or.inl (Exa.ne Ex155_r0 Ex155_a1 (by decide)))
  have F156_modCount_al := F155_modCount_al.other W156 (Or.inl (Exa.ne Ex155_al Ex155_a1 (by decide)))
  have F156_elementData_al := F155_elementData_al.other W156 (Or.inl (Exa.ne Ex155_al Ex155_a1 (by decide)))
  have F156_size_al := F155_size_al.other W156 (Or.inl (Exa.ne Ex155_al Ex155_a1 (by decide)))
  have xa156_el := xa155_el.other W156 (Ne.symm (own_Vs.ne Ex155_a1 xa155_el (hw _ (List.mem_of_getElem? (i := 78) rfl))))
  have xa156_lw149 := xa155_lw149.other W156 (Ne.symm ne_a1_lw149)
  have Ex156_a1 := Ex155_a1.wr W156
  have Ex156_r0 := Ex155_r0.wr W156
  have Ex156_al := Ex155_al.wr W156
  have K156 := K155.wr W156 (Or.inl (by simp))
  have Z156 := Nat.le_trans Z155 (Keep.of_wr W156).1
  have O156 := O155.wr W156 ga
  have N156 := Fr.snoc X156 N155 ga
  show own_Go p.tables e below K (T156.setTop (mkF m 55 #[.val (.ref a1), .val (.ref s1), .val (.ref s2), .val (.ref lw148), .val (.double dc), .second, .val (.long j1), .second, .val (.long j2), .second, .val (.long j3), .second, .val (.ref lw149)] []))
  refine own_by (fun t k => XS.aloadN X156.here hx rfl (hb hby own_d12_55) rfl rfl k) ?_
  show own_Go p.tables e below K (T156.setTop (mkF m 56 #[.val (.ref a1), .val (.ref s1), .val (.ref s2), .val (.ref lw148), .val (.double dc), .second, .val (.long j1), .second, .val (.long j2), .second, .val (.long j3), .second, .val (.ref lw149)] [(.ref a1)]))
  refine own_by (fun t k => XS.aload X156.here hx rfl (hb hby own_d12_56) rfl rfl k) ?_
  show own_Go p.tables e below K (T156.setTop (mkF m 58 #[.val (.ref a1), .val (.ref s1), .val (.ref s2), .val (.ref lw148), .val (.double dc), .second, .val (.long j1), .second, .val (.long j2), .second, .val (.long j3), .second, .val (.ref lw149)] [(.ref lw149), (.ref a1)]))
  obtain ⟨T157, h157, X157, e157, W157, st157⟩ := putF X156 hx hZ hown (host := "") (Or.inl (hw _ (List.mem_of_getElem? (i := 198) rfl))) Via.refl e156 F156_usedWindows_a1 Ex156_a1 (Or.inr ⟨(hw _ (List.mem_of_getElem? (i := 199) rfl)), rfl, hnm⟩) (hw _ (List.mem_of_getElem? (i := 78) rfl)) (ty := (.object "java/util/List")) (by decide) rfl rfl (g := (mkF m 58 #[.val (.ref a1), .val (.ref s1), .val (.ref s2), .val (.ref lw148), .val (.double dc), .second, .val (.long j1), .second, .val (.long j2), .second, .val (.long j3), .second, .val (.ref lw149)] [(.ref lw149), (.ref a1)])) rfl rfl (hb hby own_d12_58)
  refine own_by st157 ?_
  have F157_id_a1 := F156_id_a1.other W157 (Or.inr (slot_ne (Or.inr (hw _ (List.mem_of_getElem? (i := 185) rfl))) (Or.inr (hw _ (List.mem_of_getElem? (i := 199) rfl))) (by decide) (t := (.object "java/lang/String")) (t' := (.object "java/util/List")) (by decide) (by decide)))
  have F157_name_a1 := F156_name_a1.other W157 (Or.inr (slot_ne (Or.inr (hw _ (List.mem_of_getElem? (i := 187) rfl))) (Or.inr (hw _ (List.mem_of_getElem? (i := 199) rfl))) (by decide) (t := (.object "java/lang/String")) (t' := (.object "java/util/List")) (by decide) (by decide)))
  have F157_payloads_a1 := F156_payloads_a1.other W157 (Or.inr (slot_ne (Or.inr (hw _ (List.mem_of_getElem? (i := 189) rfl))) (Or.inr (hw _ (List.mem_of_getElem? (i := 199) rfl))) (by decide) (t := (.object "java/util/List")) (t' := (.object "java/util/List")) (by decide) (by decide)))
  have F157_costCoefficient_a1 := F156_costCoefficient_a1.other W157 (Or.inr (slot_ne (Or.inr (hw _ (List.mem_of_getElem? (i := 191) rfl))) (Or.inr (hw _ (List.mem_of_getElem? (i := 199) rfl))) (by decide) (t := .double) (t' := (.object "java/util/List")) (by decide) (by decide)))
  have F157_minGapS_a1 := F156_minGapS_a1.other W157 (Or.inr (slot_ne (Or.inr (hw _ (List.mem_of_getElem? (i := 193) rfl))) (Or.inr (hw _ (List.mem_of_getElem? (i := 199) rfl))) (by decide) (t := .long) (t' := (.object "java/util/List")) (by decide) (by decide)))
  have F157_maxOrbitS_a1 := F156_maxOrbitS_a1.other W157 (Or.inr (slot_ne (Or.inr (hw _ (List.mem_of_getElem? (i := 195) rfl))) (Or.inr (hw _ (List.mem_of_getElem? (i := 199) rfl))) (by decide) (t := .long) (t' := (.object "java/util/List")) (by decide) (by decide)))
  have F157_maxDayS_a1 := F156_maxDayS_a1.other W157 (Or.inr (slot_ne (Or.inr (hw _ (List.mem_of_getElem? (i := 197) rfl))) (Or.inr (hw _ (List.mem_of_getElem? (i := 199) rfl))) (by decide) (t := .long) (t' := (.object "java/util/List")) (by decide) (by decide)))
  have F157_usedWindows_a1 := F156_usedWindows_a1.same W157
  have F157_modCount_r0 := F156_modCount_r0.other W157 (Or.inl (Exa.ne Ex156_r0 Ex156_a1 (by decide)))
  have F157_elementData_r0 := F156_elementData_r0.other W157 (Or.inl (Exa.ne Ex156_r0 Ex156_a1 (by decide)))
  have F157_size_r0 := F156_size_r0.other W157 (Or.inl (Exa.ne Ex156_r0 Ex156_a1 (by decide)))
  have F157_modCount_al := F156_modCount_al.other W157 (Or.inl (Exa.ne Ex156_al Ex156_a1 (by decide)))
  have F157_elementData_al := F156_elementData_al.other W157 (Or.inl (Exa.ne Ex156_al Ex156_a1 (by decide)))
  have F157_size_al := F156_size_al.other W157 (Or.inl (Exa.ne Ex156_al Ex156_a1 (by decide)))
  have xa157_el := xa156_el.other W157 (Ne.symm (own_Vs.ne Ex156_a1 xa156_el (hw _ (List.mem_of_getElem? (i := 78) rfl))))
  have xa157_lw149 := xa156_lw149.other W157 (Ne.symm ne_a1_lw149)
  have Ex157_a1 := Ex156_a1.wr W157
  have Ex157_r0 := Ex156_r0.wr W157
  have Ex157_al := Ex156_al.wr W157
  have K157 := K156.wr W157 (Or.inl (by simp))
  have Z157 := Nat.le_trans Z156 (Keep.of_wr W157).1
  have O157 := O156.wr W157 ga
  have N157 := Fr.snoc X157 N156 ga
  show own_Go p.tables e below K (T157.setTop (mkF m 61 #[.val (.ref a1), .val (.ref s1), .val (.ref s2), .val (.ref lw148), .val (.double dc), .second, .val (.long j1), .second, .val (.long j2), .second, .val (.long j3), .second, .val (.ref lw149)] []))
  exact own_retV X157 hx hret (hb hby own_d12_61) (hK none X157 (fun _ => rfl) (by rw [e157]; exact ⟨rfl, N157, K157, Ex157_a1, F157_costCoefficient_a1, _, F157_usedWindows_a1, xa157_lw149⟩) (by decide) (by decide))
theorem own_d28_0 : decode prog_15_method_8_code 0 = .ok (.aload_n 0, 1) := by decide +kernel
theorem own_d28_1 : decode prog_15_method_8_code 1 = .ok (.getfield 26, 3) := by decide +kernel
theorem own_d28_4 : decode prog_15_method_8_code 4 = .ok (.dreturn, 1) := by decide +kernel
theorem own_efscc (m : MethodId) (a1 : Addr) : entryFrame m #[(.ref a1)] 1 = mkF m 0 #[.val (.ref a1)] [] := by first | (simp [entryFrame, mkF, argsToLocals, Value.category]; done) | rfl
def own_Qscc (Z : State) (a1 : Addr) (dc : UInt64) (h0 : Heap) (n0 : Nat) (v : Option Value) (h : Heap) (L : List Loc) : Prop := v = some (.double dc) ∧ Fr n0 L ∧ h = h0
set_option maxRecDepth 65536 in
set_option maxHeartbeats 40000000 in
theorem own_rmscc (l : Launch) (Z : State) (aw : Array Value) (hw : ∀ d ∈ tables_1, d.before aw Z = true) (ws : List Jvm.Cond) (a1 : Addr) (dc : UInt64) (h0 : Heap) (n0 : Nat) (Z0 : n0 ≤ h0.size) (F0 : Fld Z h0 a1 "com/example/skyroster/skyroster/Satellite" "costCoefficient" "D" (.double dc)) :
    MetFree l (⟨"com/example/skyroster/skyroster/Satellite", "costCoefficient", "()D"⟩ : MethodName) (head1 (Jvm.Cond.code (⟨"com/example/skyroster/skyroster/Satellite", "costCoefficient", "()D"⟩ : MethodName) prog_15_method_8_code 1 (some .double) :: ws) ({ frames := 0, cells := 0, slots := 0, locals := 0 } : Room)) (fun a U => a = #[(.ref a1)] ∧ Z.Warmed39 U.vm ∧ U.heap = h0) (fun _ _ _ _ _ => True) (fun _ U o U' => ∃ v L, o = .returned v ∧ own_Qscc Z a1 dc h0 n0 v U'.heap L ∧ FrameEnd U o U' L ({ frames := 0, cells := 0, slots := 0, locals := 0 } : Room).cells ({ frames := 0, cells := 0, slots := 0, locals := 0 } : Room).slots) := by
  refine own_met (Q := own_Qscc Z a1 dc h0 n0) (plainFor_of_name own_pn12) ?_
  intro p e s m below meth c s₁ K hx hby hml hown hnm hret hZ X0 e0 hK
  have hown : s.vm.findClass "com/example/skyroster/skyroster/Satellite" = some m.cls := hown
  have N0 := Fr.nil n0
  refine own_by (fun t k => castTop (own_efscc m a1) k) ?_
  show own_Go p.tables e below K (s₁.setTop (mkF m 0 #[.val (.ref a1)] []))
  refine own_by (fun t k => XS.aloadN X0.here hx rfl (hb hby own_d28_0) rfl rfl k) ?_
  show own_Go p.tables e below K (s₁.setTop (mkF m 1 #[.val (.ref a1)] [(.ref a1)]))
  obtain ⟨T158, X158, e158, st158⟩ := getF X0 hx hZ hown (host := "") (Or.inl (hw _ (List.mem_of_getElem? (i := 190) rfl))) Via.refl e0 F0 (g := (mkF m 1 #[.val (.ref a1)] [(.ref a1)])) rfl rfl (hb hby own_d28_1)
  refine own_by st158 ?_
  show own_Go p.tables e below K (T158.setTop (mkF m 4 #[.val (.ref a1)] [(.double dc)]))
  exact own_retD X158 hx hret (hb hby own_d28_4) (hK (some (.double dc)) X158 (fun h => by rw [hret] at h; cases h) ⟨rfl, N0, e158⟩ (by decide) (by decide))
theorem own_d29_0 : decode prog_15_method_12_code 0 = .ok (.aload_n 0, 1) := by decide +kernel
theorem own_d29_1 : decode prog_15_method_12_code 1 = .ok (.getfield 40, 3) := by decide +kernel
theorem own_d29_4 : decode prog_15_method_12_code 4 = .ok (.areturn, 1) := by decide +kernel
theorem own_efsuw (m : MethodId) (a1 : Addr) : entryFrame m #[(.ref a1)] 1 = mkF m 0 #[.val (.ref a1)] [] := by first | (simp [entryFrame, mkF, argsToLocals, Value.category]; done) | rfl
def own_Qsuw (Z : State) (a1 : Addr) (lw : Addr) (h0 : Heap) (n0 : Nat) (v : Option Value) (h : Heap) (L : List Loc) : Prop := v = some (.ref lw) ∧ Fr n0 L ∧ h = h0
set_option maxRecDepth 65536 in
set_option maxHeartbeats 40000000 in
theorem own_rmsuw (l : Launch) (Z : State) (aw : Array Value) (hw : ∀ d ∈ tables_1, d.before aw Z = true) (ws : List Jvm.Cond) (a1 : Addr) (lw : Addr) (h0 : Heap) (n0 : Nat) (Z0 : n0 ≤ h0.size) (F0 : Fld Z h0 a1 "com/example/skyroster/skyroster/Satellite" "usedWindows" "Ljava/util/List;" (.ref lw)) :
    MetFree l (⟨"com/example/skyroster/skyroster/Satellite", "usedWindows", "()Ljava/util/List;"⟩ : MethodName) (head1 (Jvm.Cond.code (⟨"com/example/skyroster/skyroster/Satellite", "usedWindows", "()Ljava/util/List;"⟩ : MethodName) prog_15_method_12_code 1 (some (.object "java/util/List")) :: ws) ({ frames := 0, cells := 0, slots := 0, locals := 0 } : Room)) (fun a U => a = #[(.ref a1)] ∧ Z.Warmed39 U.vm ∧ U.heap = h0) (fun _ _ _ _ _ => True) (fun _ U o U' => ∃ v L, o = .returned v ∧ own_Qsuw Z a1 lw h0 n0 v U'.heap L ∧ FrameEnd U o U' L ({ frames := 0, cells := 0, slots := 0, locals := 0 } : Room).cells ({ frames := 0, cells := 0, slots := 0, locals := 0 } : Room).slots) := by
  refine own_met (Q := own_Qsuw Z a1 lw h0 n0) (plainFor_of_name own_pn12) ?_
  intro p e s m below meth c s₁ K hx hby hml hown hnm hret hZ X0 e0 hK
  have hown : s.vm.findClass "com/example/skyroster/skyroster/Satellite" = some m.cls := hown
  have N0 := Fr.nil n0
  refine own_by (fun t k => castTop (own_efsuw m a1) k) ?_
  show own_Go p.tables e below K (s₁.setTop (mkF m 0 #[.val (.ref a1)] []))
  refine own_by (fun t k => XS.aloadN X0.here hx rfl (hb hby own_d29_0) rfl rfl k) ?_
  show own_Go p.tables e below K (s₁.setTop (mkF m 1 #[.val (.ref a1)] [(.ref a1)]))
  obtain ⟨T159, X159, e159, st159⟩ := getF X0 hx hZ hown (host := "") (Or.inl (hw _ (List.mem_of_getElem? (i := 198) rfl))) Via.refl e0 F0 (g := (mkF m 1 #[.val (.ref a1)] [(.ref a1)])) rfl rfl (hb hby own_d29_1)
  refine own_by st159 ?_
  show own_Go p.tables e below K (T159.setTop (mkF m 4 #[.val (.ref a1)] [(.ref lw)]))
  exact own_retA X159 hx hret rfl rfl rfl (hb hby own_d29_4) (hK (some (.ref lw)) X159 (fun h => by rw [hret] at h; cases h) (⟨rfl, N0, e159⟩) (by decide) (by decide))
theorem own_pd15 : parseMethodDescriptor "()D" = some ⟨[], some .double⟩ := by decide +kernel
theorem own_pd16 : parseMethodDescriptor "()I" = some ⟨[], some .int⟩ := by decide +kernel
theorem own_pn27 : plainName "com/example/skyroster/skyroster/CostShare" = true := by first | (simp [plainName, overriddenIn]; done) | decide +kernel
theorem own_d27_0 : decode prog_2_method_1_code 0 = .ok (.aload_n 0, 1) := by decide +kernel
theorem own_d27_1 : decode prog_2_method_1_code 1 = .ok (.invokespecial 1, 3) := by decide +kernel
theorem own_d27_4 : decode prog_2_method_1_code 4 = .ok (.aload_n 0, 1) := by decide +kernel
theorem own_d27_5 : decode prog_2_method_1_code 5 = .ok (.aload_n 1, 1) := by decide +kernel
theorem own_d27_6 : decode prog_2_method_1_code 6 = .ok (.invokevirtual 7, 3) := by decide +kernel
theorem own_d27_9 : decode prog_2_method_1_code 9 = .ok (.putfield 13, 3) := by decide +kernel
theorem own_d27_12 : decode prog_2_method_1_code 12 = .ok (.aload_n 0, 1) := by decide +kernel
theorem own_d27_13 : decode prog_2_method_1_code 13 = .ok (.aload_n 1, 1) := by decide +kernel
theorem own_d27_14 : decode prog_2_method_1_code 14 = .ok (.invokevirtual 19, 3) := by decide +kernel
theorem own_d27_17 : decode prog_2_method_1_code 17 = .ok (.invokeinterface 23 1, 5) := by decide +kernel
theorem own_d27_22 : decode prog_2_method_1_code 22 = .ok (.putfield 29, 3) := by decide +kernel
theorem own_d27_25 : decode prog_2_method_1_code 25 = .ok (.return_, 1) := by decide +kernel
theorem own_efcsi (m : MethodId) (a1 : Addr) (r1 : Addr) : entryFrame m #[(.ref a1), (.ref r1)] 2 = mkF m 0 #[.val (.ref a1), .val (.ref r1)] [] := by first | (simp [entryFrame, mkF, argsToLocals, Value.category]; done) | rfl
def own_Qcsi (Z : State) (a1 : Addr) (r1 : Addr) (dc : UInt64) (lw : Addr) (n : Int32) (dd : Addr) (lz : Addr) (ez : Addr) (em : Addr) (mr : Addr) (h0 : Heap) (n0 : Nat) (v : Option Value) (h : Heap) (L : List Loc) : Prop := v = none ∧ Fr n0 L ∧ Keep h0 h [a1] ∧ own_CS Z h a1 dc n 0 (FP.l2d 0) 0
set_option maxRecDepth 65536 in
set_option maxHeartbeats 40000000 in
theorem own_rmcsi (l : Launch) (Z : State) (aw : Array Value) (hw : ∀ d ∈ tables_1, d.before aw Z = true) (ws : List Jvm.Cond) (a1 : Addr) (r1 : Addr) (dc : UInt64) (lw : Addr) (n : Int32) (dd : Addr) (lz : Addr) (ez : Addr) (em : Addr) (mr : Addr) (h0 : Heap) (n0 : Nat) (Z0 : n0 ≤ h0.size) (E0 : Exa Z h0 a1 "com/example/skyroster/skyroster/CostShare") (ga : n0 ≤ a1) (F0_coefficient : Fld Z h0 a1 "com/example/skyroster/skyroster/CostShare" "coefficient" "D" (.double (0 : UInt64))) (F0_usedCount : Fld Z h0 a1 "com/example/skyroster/skyroster/CostShare" "usedCount" "I" (.int (0 : Int32))) (F0_taskCount : Fld Z h0 a1 "com/example/skyroster/skyroster/CostShare" "taskCount" "I" (.int (0 : Int32))) (F0_taskCostSum : Fld Z h0 a1 "com/example/skyroster/skyroster/CostShare" "taskCostSum" "D" (.double (0 : UInt64))) (F0_cost : Fld Z h0 a1 "com/example/skyroster/skyroster/CostShare" "cost" "D" (.double (0 : UInt64))) (E1 : Exa Z h0 r1 "com/example/skyroster/skyroster/Satellite") (C1 : Fld Z h0 r1 "com/example/skyroster/skyroster/Satellite" "costCoefficient" "D" (.double dc)) (U1 : Fld Z h0 r1 "com/example/skyroster/skyroster/Satellite" "usedWindows" "Ljava/util/List;" (.ref lw)) (Z1 : own_SZ Z h0 lw em n) (O0 : Old Z n0 h0) (S0 : own_St Z dd lz ez em mr) :
    MetFree l (⟨"com/example/skyroster/skyroster/CostShare", "<init>", "(Lcom/example/skyroster/skyroster/Satellite;)V"⟩ : MethodName) (head1 (Jvm.Cond.code (⟨"com/example/skyroster/skyroster/CostShare", "<init>", "(Lcom/example/skyroster/skyroster/Satellite;)V"⟩ : MethodName) prog_2_method_1_code 2 none :: ws) ({ frames := 1, cells := 0, slots := 0, locals := 20 } : Room)) (fun a U => a = #[(.ref a1), (.ref r1)] ∧ Z.Warmed39 U.vm ∧ U.heap = h0) (fun _ _ _ _ _ => True) (fun _ U o U' => ∃ v L, o = .returned v ∧ own_Qcsi Z a1 r1 dc lw n dd lz ez em mr h0 n0 v U'.heap L ∧ FrameEnd U o U' L ({ frames := 1, cells := 0, slots := 0, locals := 20 } : Room).cells ({ frames := 1, cells := 0, slots := 0, locals := 20 } : Room).slots) := by
  refine own_met (Q := own_Qcsi Z a1 r1 dc lw n dd lz ez em mr h0 n0) (plainFor_of_name own_pn27) ?_
  intro p e s m below meth c s₁ K hx hby hml hown hnm hret hZ X0 e0 hK
  have hown : s.vm.findClass "com/example/skyroster/skyroster/CostShare" = some m.cls := hown
  have hnm : meth.name = "<init>" := hnm
  have N0 := Fr.nil n0
  refine own_by (fun t k => castTop (own_efcsi m a1 r1) k) ?_
  show own_Go p.tables e below K (s₁.setTop (mkF m 0 #[.val (.ref a1), .val (.ref r1)] []))
  refine own_by (fun t k => XS.aloadN X0.here hx rfl (hb hby own_d27_0) rfl rfl k) ?_
  show own_Go p.tables e below K (s₁.setTop (mkF m 1 #[.val (.ref a1), .val (.ref r1)] [(.ref a1)]))
  obtain ⟨T160, X160, e160, st160⟩ := initO X0 hx hZ hown (hw _ (List.mem_of_getElem? (i := 206) rfl)) (hw _ (List.mem_of_getElem? (i := 14) rfl)) (hw _ (List.mem_of_getElem? (i := 15) rfl)) e0 (g := (mkF m 1 #[.val (.ref a1), .val (.ref r1)] [(.ref a1)])) rfl (by rw [hml]; rfl) rfl (hb hby own_d27_1) (by decide) (W := 0) (by show 2 * 0 + _ ≤ _; exact Nat.le_of_eq rfl) (by decide)
  refine own_by st160 ?_
  show own_Go p.tables e below K (T160.setTop (mkF m 4 #[.val (.ref a1), .val (.ref r1)] []))
  refine own_by (fun t k => XS.aloadN X160.here hx rfl (hb hby own_d27_4) rfl rfl k) ?_
  show own_Go p.tables e below K (T160.setTop (mkF m 5 #[.val (.ref a1), .val (.ref r1)] [(.ref a1)]))
  refine own_by (fun t k => XS.aloadN X160.here hx rfl (hb hby own_d27_5) rfl rfl k) ?_
  show own_Go p.tables e below K (T160.setTop (mkF m 6 #[.val (.ref a1), .val (.ref r1)] [(.ref r1), (.ref a1)]))
  obtain ⟨cq161, kq161, q161a, q161b, q161c⟩ := isOf hZ e160 E1
  obtain ⟨_, _, ⟨T161, L161, k161, n161⟩, -, X161, ⟨Lc161, hQ161, l161, y161, z161⟩, st161⟩ := X160.virtualBack hx (y := (⟨"com/example/skyroster/skyroster/Satellite", "costCoefficient", "()D"⟩ : MethodName)) (z := (⟨"com/example/skyroster/skyroster/Satellite", "costCoefficient", "()D"⟩ : MethodName)) hown (mvT hZ (hw _ (List.mem_of_getElem? (i := 207) rfl))) (mvT hZ (hw _ (List.mem_of_getElem? (i := 208) rfl))) (notFace_of_selects (args := #[]) (mvT hZ (hw _ (List.mem_of_getElem? (i := 210) rfl)))) (mvT hZ (hw _ (List.mem_of_getElem? (i := 210) rfl))) (mvT hZ (hw _ (List.mem_of_getElem? (i := 209) rfl))) (by decide) (backOf (W := 1) (own_rmscc l Z aw hw [] r1 dc h0 n0 Z0 C1) hZ (hw _ (List.mem_of_getElem? (i := 211) rfl)) (hw _ (List.mem_of_getElem? (i := 79) rfl)) (by decide) (by decide)) q161a q161c (g := (mkF m 6 #[.val (.ref a1), .val (.ref r1)] [(.ref r1), (.ref a1)])) rfl (by rw [hml]; rfl) (Steps.refl _) (argsL := []) (rest := [(.ref a1)]) (lenOf own_pd15 rfl) rfl (by show 2 * 0 + _ ≤ _; exact Nat.le_of_eq rfl) (hb hby own_d27_6) (fun _ _ => ⟨rfl, e160, (by decide : 0 + 0 ≤ _), (by decide : 0 + 0 ≤ _)⟩)
  dsimp only [Pt.U, Pt.locs, Pt.cells, Pt.slots] at X161 l161 y161 z161 st161 hQ161
  subst l161 y161 z161
  obtain ⟨rfl, N161q, e161⟩ := hQ161
  have N161 := Fr.app N0 N161q
  refine own_by (fun t k => st161.trans k) ?_
  show own_Go p.tables e below K (T161.setTop (mkF m 9 #[.val (.ref a1), .val (.ref r1)] [(.double dc), (.ref a1)]))
  obtain ⟨T162, h162, X162, e162, W162, st162⟩ := putF X161 hx hZ hown (host := "") (Or.inl (hw _ (List.mem_of_getElem? (i := 212) rfl))) Via.refl e161 F0_coefficient E0 (Or.inr ⟨(hw _ (List.mem_of_getElem? (i := 213) rfl)), rfl, hnm⟩) (hw _ (List.mem_of_getElem? (i := 201) rfl)) (ty := .double) (by decide) rfl rfl (g := (mkF m 9 #[.val (.ref a1), .val (.ref r1)] [(.double dc), (.ref a1)])) rfl rfl (hb hby own_d27_9)
  refine own_by st162 ?_
  have F162_coefficient_a1 := F0_coefficient.same W162
  have F162_usedCount_a1 := F0_usedCount.other W162 (Or.inr (slot_ne (Or.inr (hw _ (List.mem_of_getElem? (i := 229) rfl))) (Or.inr (hw _ (List.mem_of_getElem? (i := 213) rfl))) (by decide) (t := .int) (t' := .double) (by decide) (by decide)))
  have F162_taskCount_a1 := F0_taskCount.other W162 (Or.inr (slot_ne (Or.inl (hw _ (List.mem_of_getElem? (i := 231) rfl))) (Or.inr (hw _ (List.mem_of_getElem? (i := 213) rfl))) (by decide) (t := .int) (t' := .double) (by decide) (by decide)))
  have F162_taskCostSum_a1 := F0_taskCostSum.other W162 (Or.inr (slot_ne (Or.inl (hw _ (List.mem_of_getElem? (i := 241) rfl))) (Or.inr (hw _ (List.mem_of_getElem? (i := 213) rfl))) (by decide) (t := .double) (t' := .double) (by decide) (by decide)))
  have F162_cost_a1 := F0_cost.other W162 (Or.inr (slot_ne (Or.inl (hw _ (List.mem_of_getElem? (i := 248) rfl))) (Or.inr (hw _ (List.mem_of_getElem? (i := 213) rfl))) (by decide) (t := .double) (t' := .double) (by decide) (by decide)))
  have F162_costCoefficient_r1 := C1.other W162 (Or.inl (Exa.ne E1 E0 (by decide)))
  have F162_usedWindows_r1 := U1.other W162 (Or.inl (Exa.ne E1 E0 (by decide)))
  have xa162_lw := Z1.other W162 (Ne.symm (own_SZ.ne E0 Z1 (by decide) (by decide)))
  have Ex162_a1 := E0.wr W162
  have Ex162_r1 := E1.wr W162
  have K162 := (Keep.refl h0 [a1]).wr W162 (Or.inl (by simp))
  have Z162 := Nat.le_trans Z0 (Keep.of_wr W162).1
  have O162 := O0.wr W162 ga
  have N162 := Fr.snoc X162 N161 ga
  show own_Go p.tables e below K (T162.setTop (mkF m 12 #[.val (.ref a1), .val (.ref r1)] []))
  refine own_by (fun t k => XS.aloadN X162.here hx rfl (hb hby own_d27_12) rfl rfl k) ?_
  show own_Go p.tables e below K (T162.setTop (mkF m 13 #[.val (.ref a1), .val (.ref r1)] [(.ref a1)]))
  refine own_by (fun t k => XS.aloadN X162.here hx rfl (hb hby own_d27_13) rfl rfl k) ?_
  show own_Go p.tables e below K (T162.setTop (mkF m 14 #[.val (.ref a1), .val (.ref r1)] [(.ref r1), (.ref a1)]))
  obtain ⟨cq163, kq163, q163a, q163b, q163c⟩ := isOf hZ e162 Ex162_r1
  obtain ⟨_, _, ⟨T163, L163, k163, n163⟩, -, X163, ⟨Lc163, hQ163, l163, y163, z163⟩, st163⟩ := X162.virtualBack hx (y := (⟨"com/example/skyroster/skyroster/Satellite", "usedWindows", "()Ljava/util/List;"⟩ : MethodName)) (z := (⟨"com/example/skyroster/skyroster/Satellite", "usedWindows", "()Ljava/util/List;"⟩ : MethodName)) hown (mvT hZ (hw _ (List.mem_of_getElem? (i := 214) rfl))) (mvT hZ (hw _ (List.mem_of_getElem? (i := 215) rfl))) (notFace_of_selects (args := #[]) (mvT hZ (hw _ (List.mem_of_getElem? (i := 217) rfl)))) (mvT hZ (hw _ (List.mem_of_getElem? (i := 217) rfl))) (mvT hZ (hw _ (List.mem_of_getElem? (i := 216) rfl))) (by decide) (backOf (W := 1) (own_rmsuw l Z aw hw [] r1 lw h162 n0 Z162 F162_usedWindows_r1) hZ (hw _ (List.mem_of_getElem? (i := 218) rfl)) (hw _ (List.mem_of_getElem? (i := 79) rfl)) (by decide) (by decide)) q163a q163c (g := (mkF m 14 #[.val (.ref a1), .val (.ref r1)] [(.ref r1), (.ref a1)])) rfl (by rw [hml]; rfl) (Steps.refl _) (argsL := []) (rest := [(.ref a1)]) (lenOf own_pd13 rfl) rfl (by show 2 * 0 + _ ≤ _; exact Nat.le_of_eq rfl) (hb hby own_d27_14) (fun _ _ => ⟨rfl, e162, (by decide : 0 + 0 ≤ _), (by decide : 0 + 0 ≤ _)⟩)
  dsimp only [Pt.U, Pt.locs, Pt.cells, Pt.slots] at X163 l163 y163 z163 st163 hQ163
  subst l163 y163 z163
  obtain ⟨rfl, N163q, e163⟩ := hQ163
  have N163 := Fr.app N162 N163q
  refine own_by (fun t k => st163.trans k) ?_
  rcases (id xa162_lw) with ⟨Es, x1, Fs, As⟩ | ⟨Es, x1, Fs, ⟨hn1, hx1⟩ | ⟨hn2, hx2⟩⟩
  · show own_Go p.tables e below K (T163.setTop (mkF m 17 #[.val (.ref a1), .val (.ref r1)] [(.ref lw), (.ref a1)]))
    obtain ⟨cq164, kq164, q164a, q164b, q164c⟩ := isOf hZ e163 Es
    obtain ⟨_, _, ⟨T164, L164, k164, n164⟩, -, X164, ⟨Lc164, hQ164, l164, y164, z164⟩, st164⟩ := X163.interfaceBack hx (xi := (⟨"java/util/List", "size", "()I"⟩ : MethodName)) (y := (⟨"java/util/ImmutableCollections$ListN", "size", "()I"⟩ : MethodName)) hown (mvT hZ (hw _ (List.mem_of_getElem? (i := 219) rfl))) (mvT hZ (hw _ (List.mem_of_getElem? (i := 220) rfl))) (mvT hZ (hw _ (List.mem_of_getElem? (i := 221) rfl))) (mvT hZ (hw _ (List.mem_of_getElem? (i := 222) rfl))) (mvT hZ (hw _ (List.mem_of_getElem? (i := 223) rfl))) (mvT hZ (hw _ (List.mem_of_getElem? (i := 224) rfl))) (mvT hZ (hw _ (List.mem_of_getElem? (i := 225) rfl))) (mvT hZ (hw _ (List.mem_of_getElem? (i := 226) rfl))) (by decide) (backOf (W := 1) (own_rmszn l Z aw hw [] lw x1 n h162 n0 Z162 Fs As) hZ (hw _ (List.mem_of_getElem? (i := 227) rfl)) (hw _ (List.mem_of_getElem? (i := 161) rfl)) (by decide) (by decide)) q164a q164b q164c (g := (mkF m 17 #[.val (.ref a1), .val (.ref r1)] [(.ref lw), (.ref a1)])) rfl (by rw [hml]; rfl) (Steps.refl _) (argsL := []) (rest := [(.ref a1)]) (lenOf own_pd16 rfl) rfl (by show 2 * 0 + _ ≤ _; exact Nat.le_of_eq rfl) (hb hby own_d27_17) (fun _ _ => ⟨rfl, e163, (by decide : 0 + 0 ≤ _), (by decide : 0 + 0 ≤ _)⟩)
    dsimp only [Pt.U, Pt.locs, Pt.cells, Pt.slots] at X164 l164 y164 z164 st164 hQ164
    subst l164 y164 z164
    obtain ⟨rfl, N164q, e164⟩ := hQ164
    have N164 := Fr.app N163 N164q
    refine own_by (fun t k => st164.trans k) ?_
    show own_Go p.tables e below K (T164.setTop (mkF m 22 #[.val (.ref a1), .val (.ref r1)] [(.int n), (.ref a1)]))
    obtain ⟨T165, h165, X165, e165, W165, st165⟩ := putF X164 hx hZ hown (host := "") (Or.inl (hw _ (List.mem_of_getElem? (i := 228) rfl))) Via.refl e164 F162_usedCount_a1 Ex162_a1 (Or.inr ⟨(hw _ (List.mem_of_getElem? (i := 229) rfl)), rfl, hnm⟩) (hw _ (List.mem_of_getElem? (i := 201) rfl)) (ty := .int) (by decide) rfl rfl (g := (mkF m 22 #[.val (.ref a1), .val (.ref r1)] [(.int n), (.ref a1)])) rfl rfl (hb hby own_d27_22)
    refine own_by st165 ?_
    have F165_coefficient_a1 := F162_coefficient_a1.other W165 (Or.inr (slot_ne (Or.inr (hw _ (List.mem_of_getElem? (i := 213) rfl))) (Or.inr (hw _ (List.mem_of_getElem? (i := 229) rfl))) (by decide) (t := .double) (t' := .int) (by decide) (by decide)))
    have F165_usedCount_a1 := F162_usedCount_a1.same W165
    have F165_taskCount_a1 := F162_taskCount_a1.other W165 (Or.inr (slot_ne (Or.inl (hw _ (List.mem_of_getElem? (i := 231) rfl))) (Or.inr (hw _ (List.mem_of_getElem? (i := 229) rfl))) (by decide) (t := .int) (t' := .int) (by decide) (by decide)))
    have F165_taskCostSum_a1 := F162_taskCostSum_a1.other W165 (Or.inr (slot_ne (Or.inl (hw _ (List.mem_of_getElem? (i := 241) rfl))) (Or.inr (hw _ (List.mem_of_getElem? (i := 229) rfl))) (by decide) (t := .double) (t' := .int) (by decide) (by decide)))
    have F165_cost_a1 := F162_cost_a1.other W165 (Or.inr (slot_ne (Or.inl (hw _ (List.mem_of_getElem? (i := 248) rfl))) (Or.inr (hw _ (List.mem_of_getElem? (i := 229) rfl))) (by decide) (t := .double) (t' := .int) (by decide) (by decide)))
    have F165_costCoefficient_r1 := F162_costCoefficient_r1.other W165 (Or.inl (Exa.ne Ex162_r1 Ex162_a1 (by decide)))
    have F165_usedWindows_r1 := F162_usedWindows_r1.other W165 (Or.inl (Exa.ne Ex162_r1 Ex162_a1 (by decide)))
    have xa165_lw := xa162_lw.other W165 (Ne.symm (own_SZ.ne E0 Z1 (by decide) (by decide)))
    have Ex165_a1 := Ex162_a1.wr W165
    have Ex165_r1 := Ex162_r1.wr W165
    have K165 := K162.wr W165 (Or.inl (by simp))
    have Z165 := Nat.le_trans Z162 (Keep.of_wr W165).1
    have O165 := O162.wr W165 ga
    have N165 := Fr.snoc X165 N164 ga
    show own_Go p.tables e below K (T165.setTop (mkF m 25 #[.val (.ref a1), .val (.ref r1)] []))
    exact own_retV X165 hx hret (hb hby own_d27_25) (hK none X165 (fun _ => rfl) (by rw [e165]; exact ⟨rfl, N165, K165, ⟨Ex165_a1, F165_coefficient_a1, F165_usedCount_a1, F165_taskCount_a1, Fld.zeroD F165_taskCostSum_a1, F165_cost_a1⟩⟩) (by decide) (by decide))
  · subst hn1; rw [hx1] at Fs
    show own_Go p.tables e below K (T163.setTop (mkF m 17 #[.val (.ref a1), .val (.ref r1)] [(.ref lw), (.ref a1)]))
    obtain ⟨cq166, kq166, q166a, q166b, q166c⟩ := isOf hZ e163 Es
    obtain ⟨_, _, ⟨T166, L166, k166, n166⟩, -, X166, ⟨Lc166, hQ166, l166, y166, z166⟩, st166⟩ := X163.interfaceBack hx (xi := (⟨"java/util/List", "size", "()I"⟩ : MethodName)) (y := (⟨"java/util/ImmutableCollections$List12", "size", "()I"⟩ : MethodName)) hown (mvT hZ (hw _ (List.mem_of_getElem? (i := 219) rfl))) (mvT hZ (hw _ (List.mem_of_getElem? (i := 220) rfl))) (mvT hZ (hw _ (List.mem_of_getElem? (i := 221) rfl))) (mvT hZ (hw _ (List.mem_of_getElem? (i := 267) rfl))) (mvT hZ (hw _ (List.mem_of_getElem? (i := 268) rfl))) (mvT hZ (hw _ (List.mem_of_getElem? (i := 269) rfl))) (mvT hZ (hw _ (List.mem_of_getElem? (i := 270) rfl))) (mvT hZ (hw _ (List.mem_of_getElem? (i := 271) rfl))) (by decide) (backOf (W := 1) (own_rmsz1 l Z aw hw [] lw x1 dd lz ez em mr h162 n0 Z162 Fs O162 S0) hZ (hw _ (List.mem_of_getElem? (i := 272) rfl)) (hw _ (List.mem_of_getElem? (i := 253) rfl)) (by decide) (by decide)) q166a q166b q166c (g := (mkF m 17 #[.val (.ref a1), .val (.ref r1)] [(.ref lw), (.ref a1)])) rfl (by rw [hml]; rfl) (Steps.refl _) (argsL := []) (rest := [(.ref a1)]) (lenOf own_pd16 rfl) rfl (by show 2 * 0 + _ ≤ _; exact Nat.le_of_eq rfl) (hb hby own_d27_17) (fun _ _ => ⟨rfl, e163, (by decide : 0 + 0 ≤ _), (by decide : 0 + 0 ≤ _)⟩)
    dsimp only [Pt.U, Pt.locs, Pt.cells, Pt.slots] at X166 l166 y166 z166 st166 hQ166
    subst l166 y166 z166
    obtain ⟨rfl, N166q, e166⟩ := hQ166
    have N166 := Fr.app N163 N166q
    refine own_by (fun t k => st166.trans k) ?_
    show own_Go p.tables e below K (T166.setTop (mkF m 22 #[.val (.ref a1), .val (.ref r1)] [(.int (1 : Int32)), (.ref a1)]))
    obtain ⟨T167, h167, X167, e167, W167, st167⟩ := putF X166 hx hZ hown (host := "") (Or.inl (hw _ (List.mem_of_getElem? (i := 228) rfl))) Via.refl e166 F162_usedCount_a1 Ex162_a1 (Or.inr ⟨(hw _ (List.mem_of_getElem? (i := 229) rfl)), rfl, hnm⟩) (hw _ (List.mem_of_getElem? (i := 201) rfl)) (ty := .int) (by decide) rfl rfl (g := (mkF m 22 #[.val (.ref a1), .val (.ref r1)] [(.int (1 : Int32)), (.ref a1)])) rfl rfl (hb hby own_d27_22)
    refine own_by st167 ?_
    have F167_coefficient_a1 := F162_coefficient_a1.other W167 (Or.inr (slot_ne (Or.inr (hw _ (List.mem_of_getElem? (i := 213) rfl))) (Or.inr (hw _ (List.mem_of_getElem? (i := 229) rfl))) (by decide) (t := .double) (t' := .int) (by decide) (by decide)))
    have F167_usedCount_a1 := F162_usedCount_a1.same W167
    have F167_taskCount_a1 := F162_taskCount_a1.other W167 (Or.inr (slot_ne (Or.inl (hw _ (List.mem_of_getElem? (i := 231) rfl))) (Or.inr (hw _ (List.mem_of_getElem? (i := 229) rfl))) (by decide) (t := .int) (t' := .int) (by decide) (by decide)))
    have F167_taskCostSum_a1 := F162_taskCostSum_a1.other W167 (Or.inr (slot_ne (Or.inl (hw _ (List.mem_of_getElem? (i := 241) rfl))) (Or.inr (hw _ (List.mem_of_getElem? (i := 229) rfl))) (by decide) (t := .double) (t' := .int) (by decide) (by decide)))
    have F167_cost_a1 := F162_cost_a1.other W167 (Or.inr (slot_ne (Or.inl (hw _ (List.mem_of_getElem? (i := 248) rfl))) (Or.inr (hw _ (List.mem_of_getElem? (i := 229) rfl))) (by decide) (t := .double) (t' := .int) (by decide) (by decide)))
    have F167_costCoefficient_r1 := F162_costCoefficient_r1.other W167 (Or.inl (Exa.ne Ex162_r1 Ex162_a1 (by decide)))
    have F167_usedWindows_r1 := F162_usedWindows_r1.other W167 (Or.inl (Exa.ne Ex162_r1 Ex162_a1 (by decide)))
    have xa167_lw := xa162_lw.other W167 (Ne.symm (own_SZ.ne E0 Z1 (by decide) (by decide)))
    have Ex167_a1 := Ex162_a1.wr W167
    have Ex167_r1 := Ex162_r1.wr W167
    have K167 := K162.wr W167 (Or.inl (by simp))
    have Z167 := Nat.le_trans Z162 (Keep.of_wr W167).1
    have O167 := O162.wr W167 ga
    have N167 := Fr.snoc X167 N166 ga
    show own_Go p.tables e below K (T167.setTop (mkF m 25 #[.val (.ref a1), .val (.ref r1)] []))
    exact own_retV X167 hx hret (hb hby own_d27_25) (hK none X167 (fun _ => rfl) (by rw [e167]; exact ⟨rfl, N167, K167, ⟨Ex167_a1, F167_coefficient_a1, F167_usedCount_a1, F167_taskCount_a1, Fld.zeroD F167_taskCostSum_a1, F167_cost_a1⟩⟩) (by decide) (by decide))
  · subst hn2
    show own_Go p.tables e below K (T163.setTop (mkF m 17 #[.val (.ref a1), .val (.ref r1)] [(.ref lw), (.ref a1)]))
    obtain ⟨cq168, kq168, q168a, q168b, q168c⟩ := isOf hZ e163 Es
    obtain ⟨_, _, ⟨T168, L168, k168, n168⟩, -, X168, ⟨Lc168, hQ168, l168, y168, z168⟩, st168⟩ := X163.interfaceBack hx (xi := (⟨"java/util/List", "size", "()I"⟩ : MethodName)) (y := (⟨"java/util/ImmutableCollections$List12", "size", "()I"⟩ : MethodName)) hown (mvT hZ (hw _ (List.mem_of_getElem? (i := 219) rfl))) (mvT hZ (hw _ (List.mem_of_getElem? (i := 220) rfl))) (mvT hZ (hw _ (List.mem_of_getElem? (i := 221) rfl))) (mvT hZ (hw _ (List.mem_of_getElem? (i := 267) rfl))) (mvT hZ (hw _ (List.mem_of_getElem? (i := 268) rfl))) (mvT hZ (hw _ (List.mem_of_getElem? (i := 269) rfl))) (mvT hZ (hw _ (List.mem_of_getElem? (i := 270) rfl))) (mvT hZ (hw _ (List.mem_of_getElem? (i := 271) rfl))) (by decide) (backOf (W := 1) (own_rmsz2 l Z aw hw [] lw x1 dd lz ez em mr h162 n0 Z162 Fs hx2 O162 S0) hZ (hw _ (List.mem_of_getElem? (i := 272) rfl)) (hw _ (List.mem_of_getElem? (i := 253) rfl)) (by decide) (by decide)) q168a q168b q168c (g := (mkF m 17 #[.val (.ref a1), .val (.ref r1)] [(.ref lw), (.ref a1)])) rfl (by rw [hml]; rfl) (Steps.refl _) (argsL := []) (rest := [(.ref a1)]) (lenOf own_pd16 rfl) rfl (by show 2 * 0 + _ ≤ _; exact Nat.le_of_eq rfl) (hb hby own_d27_17) (fun _ _ => ⟨rfl, e163, (by decide : 0 + 0 ≤ _), (by decide : 0 + 0 ≤ _)⟩)
    dsimp only [Pt.U, Pt.locs, Pt.cells, Pt.slots] at X168 l168 y168 z168 st168 hQ168
    subst l168 y168 z168
    obtain ⟨rfl, N168q, e168⟩ := hQ168
    have N168 := Fr.app N163 N168q
    refine own_by (fun t k => st168.trans k) ?_
    show own_Go p.tables e below K (T168.setTop (mkF m 22 #[.val (.ref a1), .val (.ref r1)] [(.int (2 : Int32)), (.ref a1)]))
    obtain ⟨T169, h169, X169, e169, W169, st169⟩ := putF X168 hx hZ hown (host := "") (Or.inl (hw _ (List.mem_of_getElem? (i := 228) rfl))) Via.refl e168 F162_usedCount_a1 Ex162_a1 (Or.inr ⟨(hw _ (List.mem_of_getElem? (i := 229) rfl)), rfl, hnm⟩) (hw _ (List.mem_of_getElem? (i := 201) rfl)) (ty := .int) (by decide) rfl rfl (g := (mkF m 22 #[.val (.ref a1), .val (.ref r1)] [(.int (2 : Int32)), (.ref a1)])) rfl rfl (hb hby own_d27_22)
    refine own_by st169 ?_
    have F169_coefficient_a1 := F162_coefficient_a1.other W169 (Or.inr (slot_ne (Or.inr (hw _ (List.mem_of_getElem? (i := 213) rfl))) (Or.inr (hw _ (List.mem_of_getElem? (i := 229) rfl))) (by decide) (t := .double) (t' := .int) (by decide) (by decide)))
    have F169_usedCount_a1 := F162_usedCount_a1.same W169
    have F169_taskCount_a1 := F162_taskCount_a1.other W169 (Or.inr (slot_ne (Or.inl (hw _ (List.mem_of_getElem? (i := 231) rfl))) (Or.inr (hw _ (List.mem_of_getElem? (i := 229) rfl))) (by decide) (t := .int) (t' := .int) (by decide) (by decide)))
    have F169_taskCostSum_a1 := F162_taskCostSum_a1.other W169 (Or.inr (slot_ne (Or.inl (hw _ (List.mem_of_getElem? (i := 241) rfl))) (Or.inr (hw _ (List.mem_of_getElem? (i := 229) rfl))) (by decide) (t := .double) (t' := .int) (by decide) (by decide)))
    have F169_cost_a1 := F162_cost_a1.other W169 (Or.inr (slot_ne (Or.inl (hw _ (List.mem_of_getElem? (i := 248) rfl))) (Or.inr (hw _ (List.mem_of_getElem? (i := 229) rfl))) (by decide) (t := .double) (t' := .int) (by decide) (by decide)))
    have F169_costCoefficient_r1 := F162_costCoefficient_r1.other W169 (Or.inl (Exa.ne Ex162_r1 Ex162_a1 (by decide)))
    have F169_usedWindows_r1 := F162_usedWindows_r1.other W169 (Or.inl (Exa.ne Ex162_r1 Ex162_a1 (by decide)))
    have xa169_lw := xa162_lw.other W169 (Ne.symm (own_SZ.ne E0 Z1 (by decide) (by decide)))
    have Ex169_a1 := Ex162_a1.wr W169
    have Ex169_r1 := Ex162_r1.wr W169
    have K169 := K162.wr W169 (Or.inl (by simp))
    have Z169 := Nat.le_trans Z162 (Keep.of_wr W169).1
    have O169 := O162.wr W169 ga
    have N169 := Fr.snoc X169 N168 ga
    show own_Go p.tables e below K (T169.setTop (mkF m 25 #[.val (.ref a1), .val (.ref r1)] []))
    exact own_retV X169 hx hret (hb hby own_d27_25) (hK none X169 (fun _ => rfl) (by rw [e169]; exact ⟨rfl, N169, K169, ⟨Ex169_a1, F169_coefficient_a1, F169_usedCount_a1, F169_taskCount_a1, Fld.zeroD F169_taskCostSum_a1, F169_cost_a1⟩⟩) (by decide) (by decide))
theorem own_d32_0 : decode prog_2_method_2_code 0 = .ok (.aload_n 0, 1) := by decide +kernel
theorem own_d32_1 : decode prog_2_method_2_code 1 = .ok (.getfield 33, 3) := by decide +kernel
theorem own_d32_4 : decode prog_2_method_2_code 4 = .ok (.aload_n 0, 1) := by decide +kernel
theorem own_d32_5 : decode prog_2_method_2_code 5 = .ok (.getfield 29, 3) := by decide +kernel
theorem own_d32_8 : decode prog_2_method_2_code 8 = .ok (.iadd, 1) := by decide +kernel
theorem own_d32_9 : decode prog_2_method_2_code 9 = .ok (.ireturn, 1) := by decide +kernel
theorem own_efwc (m : MethodId) (a1 : Addr) : entryFrame m #[(.ref a1)] 1 = mkF m 0 #[.val (.ref a1)] [] := by first | (simp [entryFrame, mkF, argsToLocals, Value.category]; done) | rfl
def own_Qwc (Z : State) (a1 : Addr) (dc : UInt64) (u : Int32) (cc : Int32) (ds : UInt64) (co : UInt64) (h0 : Heap) (n0 : Nat) (v : Option Value) (h : Heap) (L : List Loc) : Prop := v = some (.int (cc + u)) ∧ Fr n0 L ∧ h = h0
set_option maxRecDepth 65536 in
set_option maxHeartbeats 40000000 in
theorem own_rmwc (l : Launch) (Z : State) (aw : Array Value) (hw : ∀ d ∈ tables_1, d.before aw Z = true) (ws : List Jvm.Cond) (a1 : Addr) (dc : UInt64) (u : Int32) (cc : Int32) (ds : UInt64) (co : UInt64) (h0 : Heap) (n0 : Nat) (Z0 : n0 ≤ h0.size) (B0 : own_CS Z h0 a1 dc u cc ds co) :
    MetFree l (⟨"com/example/skyroster/skyroster/CostShare", "windowCount", "()I"⟩ : MethodName) (head1 (Jvm.Cond.code (⟨"com/example/skyroster/skyroster/CostShare", "windowCount", "()I"⟩ : MethodName) prog_2_method_2_code 1 (some .int) :: ws) ({ frames := 0, cells := 0, slots := 0, locals := 0 } : Room)) (fun a U => a = #[(.ref a1)] ∧ Z.Warmed39 U.vm ∧ U.heap = h0) (fun _ _ _ _ _ => True) (fun _ U o U' => ∃ v L, o = .returned v ∧ own_Qwc Z a1 dc u cc ds co h0 n0 v U'.heap L ∧ FrameEnd U o U' L ({ frames := 0, cells := 0, slots := 0, locals := 0 } : Room).cells ({ frames := 0, cells := 0, slots := 0, locals := 0 } : Room).slots) := by
  refine own_met (Q := own_Qwc Z a1 dc u cc ds co h0 n0) (plainFor_of_name own_pn27) ?_
  intro p e s m below meth c s₁ K hx hby hml hown hnm hret hZ X0 e0 hK
  have hown : s.vm.findClass "com/example/skyroster/skyroster/CostShare" = some m.cls := hown
  have N0 := Fr.nil n0
  refine own_by (fun t k => castTop (own_efwc m a1) k) ?_
  show own_Go p.tables e below K (s₁.setTop (mkF m 0 #[.val (.ref a1)] []))
  refine own_by (fun t k => XS.aloadN X0.here hx rfl (hb hby own_d32_0) rfl rfl k) ?_
  show own_Go p.tables e below K (s₁.setTop (mkF m 1 #[.val (.ref a1)] [(.ref a1)]))
  obtain ⟨T170, X170, e170, st170⟩ := getF X0 hx hZ hown (host := "") (Or.inl (hw _ (List.mem_of_getElem? (i := 239) rfl))) Via.refl e0 B0.2.2.2.1 (g := (mkF m 1 #[.val (.ref a1)] [(.ref a1)])) rfl rfl (hb hby own_d32_1)
  refine own_by st170 ?_
  show own_Go p.tables e below K (T170.setTop (mkF m 4 #[.val (.ref a1)] [(.int cc)]))
  refine own_by (fun t k => XS.aloadN X170.here hx rfl (hb hby own_d32_4) rfl rfl k) ?_
  show own_Go p.tables e below K (T170.setTop (mkF m 5 #[.val (.ref a1)] [(.ref a1), (.int cc)]))
  obtain ⟨T171, X171, e171, st171⟩ := getF X170 hx hZ hown (host := "") (Or.inl (hw _ (List.mem_of_getElem? (i := 228) rfl))) Via.refl e170 B0.2.2.1 (g := (mkF m 5 #[.val (.ref a1)] [(.ref a1), (.int cc)])) rfl rfl (hb hby own_d32_5)
  refine own_by st171 ?_
  show own_Go p.tables e below K (T171.setTop (mkF m 8 #[.val (.ref a1)] [(.int u), (.int cc)]))
  refine own_by (fun t k => XS.iadd X171.here hx rfl (hb hby own_d32_8) rfl k) ?_
  show own_Go p.tables e below K (T171.setTop (mkF m 9 #[.val (.ref a1)] [(.int (cc + u))]))
  exact own_retI X171 hx hret (hb hby own_d32_9) (hK (some (.int (cc + u))) X171 (fun h => by rw [hret] at h; cases h) (⟨rfl, N0, e171⟩) (by decide) (by decide))
theorem own_d31_0 : decode prog_2_method_4_code 0 = .ok (.aload_n 0, 1) := by decide +kernel
theorem own_d31_1 : decode prog_2_method_4_code 1 = .ok (.dup, 1) := by decide +kernel
theorem own_d31_2 : decode prog_2_method_4_code 2 = .ok (.getfield 33, 3) := by decide +kernel
theorem own_d31_5 : decode prog_2_method_4_code 5 = .ok (.iconst 1, 1) := by decide +kernel
theorem own_d31_6 : decode prog_2_method_4_code 6 = .ok (.iadd, 1) := by decide +kernel
theorem own_d31_7 : decode prog_2_method_4_code 7 = .ok (.putfield 33, 3) := by decide +kernel
theorem own_d31_10 : decode prog_2_method_4_code 10 = .ok (.aload_n 0, 1) := by decide +kernel
theorem own_d31_11 : decode prog_2_method_4_code 11 = .ok (.dup, 1) := by decide +kernel
theorem own_d31_12 : decode prog_2_method_4_code 12 = .ok (.getfield 39, 3) := by decide +kernel
theorem own_d31_15 : decode prog_2_method_4_code 15 = .ok (.dload_n 1, 1) := by decide +kernel
theorem own_d31_16 : decode prog_2_method_4_code 16 = .ok (.dadd, 1) := by decide +kernel
theorem own_d31_17 : decode prog_2_method_4_code 17 = .ok (.putfield 39, 3) := by decide +kernel
theorem own_d31_20 : decode prog_2_method_4_code 20 = .ok (.aload_n 0, 1) := by decide +kernel
theorem own_d31_21 : decode prog_2_method_4_code 21 = .ok (.aload_n 0, 1) := by decide +kernel
theorem own_d31_22 : decode prog_2_method_4_code 22 = .ok (.getfield 13, 3) := by decide +kernel
theorem own_d31_25 : decode prog_2_method_4_code 25 = .ok (.aload_n 0, 1) := by decide +kernel
theorem own_d31_26 : decode prog_2_method_4_code 26 = .ok (.invokevirtual 36, 3) := by decide +kernel
theorem own_d31_29 : decode prog_2_method_4_code 29 = .ok (.i2d, 1) := by decide +kernel
theorem own_d31_30 : decode prog_2_method_4_code 30 = .ok (.dmul, 1) := by decide +kernel
theorem own_d31_31 : decode prog_2_method_4_code 31 = .ok (.aload_n 0, 1) := by decide +kernel
theorem own_d31_32 : decode prog_2_method_4_code 32 = .ok (.getfield 39, 3) := by decide +kernel
theorem own_d31_35 : decode prog_2_method_4_code 35 = .ok (.dmul, 1) := by decide +kernel
theorem own_d31_36 : decode prog_2_method_4_code 36 = .ok (.putfield 42, 3) := by decide +kernel
theorem own_d31_39 : decode prog_2_method_4_code 39 = .ok (.return_, 1) := by decide +kernel
theorem own_efgiv0 (m : MethodId) (a1 : Addr) (d1 : UInt64) : entryFrame m #[(.ref a1), (.double d1)] 3 = mkF m 0 #[.val (.ref a1), .val (.double d1), .second] [] := by first | (simp [entryFrame, mkF, argsToLocals, Value.category]; done) | rfl
def own_Qgiv0 (Z : State) (a1 : Addr) (d1 : UInt64) (ci : Int32) (u : Int32) (s0 : Int64) (t : Int64) (co : UInt64) (h0 : Heap) (n0 : Nat) (v : Option Value) (h : Heap) (L : List Loc) : Prop := v = none ∧ Fr n0 L ∧ Keep h0 h [a1] ∧ own_CS Z h a1 (FP.l2d ci.toInt64) u (1 : Int32) (FP.l2d (s0 + t)) (FP.dmul (FP.l2d (ci.toInt64 * ((1 : Int32) + u).toInt64)) (FP.l2d (s0 + t)))
set_option maxRecDepth 65536 in
set_option maxHeartbeats 40000000 in
theorem own_rmgiv0 (l : Launch) (Z : State) (aw : Array Value) (hw : ∀ d ∈ tables_1, d.before aw Z = true) (ws : List Jvm.Cond) (a1 : Addr) (d1 : UInt64) (ci : Int32) (u : Int32) (s0 : Int64) (t : Int64) (co : UInt64) (h0 : Heap) (n0 : Nat) (Z0 : n0 ≤ h0.size) (B0 : own_CS Z h0 a1 (FP.l2d ci.toInt64) u 0 (FP.l2d s0) co) (ga : n0 ≤ a1) (hd1 : FP.l2d t = d1) (hci : -65535 ≤ ci.toInt ∧ ci.toInt ≤ 65535) (hu : u = 0 ∨ u = 1 ∨ u = 2 ∨ u = 3) (hs : -1073741823 ≤ s0.toInt ∧ s0.toInt ≤ 1073741823) (ht : -1073741823 ≤ t.toInt ∧ t.toInt ≤ 1073741823) :
    MetFree l (⟨"com/example/skyroster/skyroster/CostShare", "give", "(D)V"⟩ : MethodName) (head1 (Jvm.Cond.code (⟨"com/example/skyroster/skyroster/CostShare", "give", "(D)V"⟩ : MethodName) prog_2_method_4_code 3 none :: ws) ({ frames := 1, cells := 0, slots := 0, locals := 20 } : Room)) (fun a U => a = #[(.ref a1), (.double d1)] ∧ Z.Warmed39 U.vm ∧ U.heap = h0) (fun _ _ _ _ _ => True) (fun _ U o U' => ∃ v L, o = .returned v ∧ own_Qgiv0 Z a1 d1 ci u s0 t co h0 n0 v U'.heap L ∧ FrameEnd U o U' L ({ frames := 1, cells := 0, slots := 0, locals := 20 } : Room).cells ({ frames := 1, cells := 0, slots := 0, locals := 20 } : Room).slots) := by
  refine own_met (Q := own_Qgiv0 Z a1 d1 ci u s0 t co h0 n0) (plainFor_of_name own_pn27) ?_
  intro p e s m below meth c s₁ K hx hby hml hown hnm hret hZ X0 e0 hK
  have hown : s.vm.findClass "com/example/skyroster/skyroster/CostShare" = some m.cls := hown
  have N0 := Fr.nil n0
  refine own_by (fun t k => castTop (own_efgiv0 m a1 d1) k) ?_
  subst hd1
  have hci' : -65535 ≤ ci.toInt64.toInt ∧ ci.toInt64.toInt ≤ 65535 := by rw [Int32.toInt_toInt64]; exact hci
  have hA := own_ad hs.1 hs.2 ht.1 ht.2
  have hM1 := own_m1 hci'.1 hci'.2 (own_wc1 hu).1 (own_wc1 hu).2
  have hMt := own_mt hci'.1 hci'.2 (own_wc1 hu).1 (own_wc1 hu).2
  have hM2 := own_m2 hMt.1 hMt.2 hA.2.1 hA.2.2
  show own_Go p.tables e below K (s₁.setTop (mkF m 0 #[.val (.ref a1), .val (.double (FP.l2d t)), .second] []))
  refine own_by (fun t k => XS.aloadN X0.here hx rfl (hb hby own_d31_0) rfl rfl k) ?_
  show own_Go p.tables e below K (s₁.setTop (mkF m 1 #[.val (.ref a1), .val (.double (FP.l2d t)), .second] [(.ref a1)]))
  refine own_by (fun t k => XS.dup X0.here hx rfl (hb hby own_d31_1) rfl rfl k) ?_
  show own_Go p.tables e below K (s₁.setTop (mkF m 2 #[.val (.ref a1), .val (.double (FP.l2d t)), .second] [(.ref a1), (.ref a1)]))
  obtain ⟨T172, X172, e172, st172⟩ := getF X0 hx hZ hown (host := "") (Or.inl (hw _ (List.mem_of_getElem? (i := 239) rfl))) Via.refl e0 B0.2.2.2.1 (g := (mkF m 2 #[.val (.ref a1), .val (.double (FP.l2d t)), .second] [(.ref a1), (.ref a1)])) rfl rfl (hb hby own_d31_2)
  refine own_by st172 ?_
  show own_Go p.tables e below K (T172.setTop (mkF m 5 #[.val (.ref a1), .val (.double (FP.l2d t)), .second] [(.int (0 : Int32)), (.ref a1)]))
  refine own_by (fun t k => XS.iconst X172.here hx rfl (hb hby own_d31_5) k) ?_
  show own_Go p.tables e below K (T172.setTop (mkF m 6 #[.val (.ref a1), .val (.double (FP.l2d t)), .second] [(.int (1 : Int32)), (.int (0 : Int32)), (.ref a1)]))
  refine own_by (fun t k => XS.iadd X172.here hx rfl (hb hby own_d31_6) rfl k) ?_
  show own_Go p.tables e below K (T172.setTop (mkF m 7 #[.val (.ref a1), .val (.double (FP.l2d t)), .second] [(.int (1 : Int32)), (.ref a1)]))
  obtain ⟨T173, h173, X173, e173, W173, st173⟩ := putF X172 hx hZ hown (host := "") (Or.inl (hw _ (List.mem_of_getElem? (i := 239) rfl))) Via.refl e172 B0.2.2.2.1 B0.1 (Or.inl (hw _ (List.mem_of_getElem? (i := 231) rfl))) (hw _ (List.mem_of_getElem? (i := 201) rfl)) (ty := .int) (by decide) rfl rfl (g := (mkF m 7 #[.val (.ref a1), .val (.double (FP.l2d t)), .second] [(.int (1 : Int32)), (.ref a1)])) rfl rfl (hb hby own_d31_7)
  refine own_by st173 ?_
  have F173_coefficient_a1 := B0.2.1.other W173 (Or.inr (slot_ne (Or.inr (hw _ (List.mem_of_getElem? (i := 213) rfl))) (Or.inl (hw _ (List.mem_of_getElem? (i := 231) rfl))) (by decide) (t := .double) (t' := .int) (by decide) (by decide)))
  have F173_usedCount_a1 := B0.2.2.1.other W173 (Or.inr (slot_ne (Or.inr (hw _ (List.mem_of_getElem? (i := 229) rfl))) (Or.inl (hw _ (List.mem_of_getElem? (i := 231) rfl))) (by decide) (t := .int) (t' := .int) (by decide) (by decide)))
  have F173_taskCount_a1 := B0.2.2.2.1.same W173
  have F173_taskCostSum_a1 := B0.2.2.2.2.1.other W173 (Or.inr (slot_ne (Or.inl (hw _ (List.mem_of_getElem? (i := 241) rfl))) (Or.inl (hw _ (List.mem_of_getElem? (i := 231) rfl))) (by decide) (t := .double) (t' := .int) (by decide) (by decide)))
  have F173_cost_a1 := B0.2.2.2.2.2.other W173 (Or.inr (slot_ne (Or.inl (hw _ (List.mem_of_getElem? (i := 248) rfl))) (Or.inl (hw _ (List.mem_of_getElem? (i := 231) rfl))) (by decide) (t := .double) (t' := .int) (by decide) (by decide)))
  have Ex173_a1 := B0.1.wr W173
  have K173 := (Keep.refl h0 [a1]).wr W173 (Or.inl (by simp))
  have Z173 := Nat.le_trans Z0 (Keep.of_wr W173).1
  have N173 := Fr.snoc X173 N0 ga
  show own_Go p.tables e below K (T173.setTop (mkF m 10 #[.val (.ref a1), .val (.double (FP.l2d t)), .second] []))
  refine own_by (fun t k => XS.aloadN X173.here hx rfl (hb hby own_d31_10) rfl rfl k) ?_
  show own_Go p.tables e below K (T173.setTop (mkF m 11 #[.val (.ref a1), .val (.double (FP.l2d t)), .second] [(.ref a1)]))
  refine own_by (fun t k => XS.dup X173.here hx rfl (hb hby own_d31_11) rfl rfl k) ?_
  show own_Go p.tables e below K (T173.setTop (mkF m 12 #[.val (.ref a1), .val (.double (FP.l2d t)), .second] [(.ref a1), (.ref a1)]))
  obtain ⟨T174, X174, e174, st174⟩ := getF X173 hx hZ hown (host := "") (Or.inl (hw _ (List.mem_of_getElem? (i := 240) rfl))) Via.refl e173 F173_taskCostSum_a1 (g := (mkF m 12 #[.val (.ref a1), .val (.double (FP.l2d t)), .second] [(.ref a1), (.ref a1)])) rfl rfl (hb hby own_d31_12)
  refine own_by st174 ?_
  show own_Go p.tables e below K (T174.setTop (mkF m 15 #[.val (.ref a1), .val (.double (FP.l2d t)), .second] [(.double (FP.l2d s0)), (.ref a1)]))
  refine own_by (fun t k => XS.dloadN X174.here hx rfl (hb hby own_d31_15) rfl k) ?_
  show own_Go p.tables e below K (T174.setTop (mkF m 16 #[.val (.ref a1), .val (.double (FP.l2d t)), .second] [(.double (FP.l2d t)), (.double (FP.l2d s0)), (.ref a1)]))
  refine own_by (fun t k => XS.daddS X174.here hx rfl (hb hby own_d31_16) rfl (by rw [hA.1]; exact nn_w rfl) hA.1 k) ?_
  show own_Go p.tables e below K (T174.setTop (mkF m 17 #[.val (.ref a1), .val (.double (FP.l2d t)), .second] [(.double (FP.l2d (s0 + t))), (.ref a1)]))
  obtain ⟨T175, h175, X175, e175, W175, st175⟩ := putF X174 hx hZ hown (host := "") (Or.inl (hw _ (List.mem_of_getElem? (i := 240) rfl))) Via.refl e174 F173_taskCostSum_a1 Ex173_a1 (Or.inl (hw _ (List.mem_of_getElem? (i := 241) rfl))) (hw _ (List.mem_of_getElem? (i := 201) rfl)) (ty := .double) (by decide) rfl rfl (g := (mkF m 17 #[.val (.ref a1), .val (.double (FP.l2d t)), .second] [(.double (FP.l2d (s0 + t))), (.ref a1)])) rfl rfl (hb hby own_d31_17)
  refine own_by st175 ?_
  have F175_coefficient_a1 := F173_coefficient_a1.other W175 (Or.inr (slot_ne (Or.inr (hw _ (List.mem_of_getElem? (i := 213) rfl))) (Or.inl (hw _ (List.mem_of_getElem? (i := 241) rfl))) (by decide) (t := .double) (t' := .double) (by decide) (by decide)))
  have F175_usedCount_a1 := F173_usedCount_a1.other W175 (Or.inr (slot_ne (Or.inr (hw _ (List.mem_of_getElem? (i := 229) rfl))) (Or.inl (hw _ (List.mem_of_getElem? (i := 241) rfl))) (by decide) (t := .int) (t' := .double) (by decide) (by decide)))
  have F175_taskCount_a1 := F173_taskCount_a1.other W175 (Or.inr (slot_ne (Or.inl (hw _ (List.mem_of_getElem? (i := 231) rfl))) (Or.inl (hw _ (List.mem_of_getElem? (i := 241) rfl))) (by decide) (t := .int) (t' := .double) (by decide) (by decide)))
  have F175_taskCostSum_a1 := F173_taskCostSum_a1.same W175
  have F175_cost_a1 := F173_cost_a1.other W175 (Or.inr (slot_ne (Or.inl (hw _ (List.mem_of_getElem? (i := 248) rfl))) (Or.inl (hw _ (List.mem_of_getElem? (i := 241) rfl))) (by decide) (t := .double) (t' := .double) (by decide) (by decide)))
  have Ex175_a1 := Ex173_a1.wr W175
  have K175 := K173.wr W175 (Or.inl (by simp))
  have Z175 := Nat.le_trans Z173 (Keep.of_wr W175).1
  have N175 := Fr.snoc X175 N173 ga
  show own_Go p.tables e below K (T175.setTop (mkF m 20 #[.val (.ref a1), .val (.double (FP.l2d t)), .second] []))
  refine own_by (fun t k => XS.aloadN X175.here hx rfl (hb hby own_d31_20) rfl rfl k) ?_
  show own_Go p.tables e below K (T175.setTop (mkF m 21 #[.val (.ref a1), .val (.double (FP.l2d t)), .second] [(.ref a1)]))
  refine own_by (fun t k => XS.aloadN X175.here hx rfl (hb hby own_d31_21) rfl rfl k) ?_
  show own_Go p.tables e below K (T175.setTop (mkF m 22 #[.val (.ref a1), .val (.double (FP.l2d t)), .second] [(.ref a1), (.ref a1)]))
  obtain ⟨T176, X176, e176, st176⟩ := getF X175 hx hZ hown (host := "") (Or.inl (hw _ (List.mem_of_getElem? (i := 212) rfl))) Via.refl e175 F175_coefficient_a1 (g := (mkF m 22 #[.val (.ref a1), .val (.double (FP.l2d t)), .second] [(.ref a1), (.ref a1)])) rfl rfl (hb hby own_d31_22)
  refine own_by st176 ?_
  show own_Go p.tables e below K (T176.setTop (mkF m 25 #[.val (.ref a1), .val (.double (FP.l2d t)), .second] [(.double (FP.l2d ci.toInt64)), (.ref a1)]))
  refine own_by (fun t k => XS.aloadN X176.here hx rfl (hb hby own_d31_25) rfl rfl k) ?_
  show own_Go p.tables e below K (T176.setTop (mkF m 26 #[.val (.ref a1), .val (.double (FP.l2d t)), .second] [(.ref a1), (.double (FP.l2d ci.toInt64)), (.ref a1)]))
  obtain ⟨cq177, kq177, q177a, q177b, q177c⟩ := isOf hZ e176 Ex175_a1
  obtain ⟨_, _, ⟨T177, L177, k177, n177⟩, -, X177, ⟨Lc177, hQ177, l177, y177, z177⟩, st177⟩ := X176.virtualBack hx (y := (⟨"com/example/skyroster/skyroster/CostShare", "windowCount", "()I"⟩ : MethodName)) (z := (⟨"com/example/skyroster/skyroster/CostShare", "windowCount", "()I"⟩ : MethodName)) hown (mvT hZ (hw _ (List.mem_of_getElem? (i := 242) rfl))) (mvT hZ (hw _ (List.mem_of_getElem? (i := 243) rfl))) (notFace_of_selects (args := #[]) (mvT hZ (hw _ (List.mem_of_getElem? (i := 245) rfl)))) (mvT hZ (hw _ (List.mem_of_getElem? (i := 245) rfl))) (mvT hZ (hw _ (List.mem_of_getElem? (i := 244) rfl))) (by decide) (backOf (W := 3) (own_rmwc l Z aw hw [] a1 _ u (1 : Int32) _ _ h175 n0 Z175 ⟨Ex175_a1, F175_coefficient_a1, F175_usedCount_a1, F175_taskCount_a1, F175_taskCostSum_a1, F175_cost_a1⟩) hZ (hw _ (List.mem_of_getElem? (i := 246) rfl)) (hw _ (List.mem_of_getElem? (i := 202) rfl)) (by decide) (by decide)) q177a q177c (g := (mkF m 26 #[.val (.ref a1), .val (.double (FP.l2d t)), .second] [(.ref a1), (.double (FP.l2d ci.toInt64)), (.ref a1)])) rfl (by rw [hml]; rfl) (Steps.refl _) (argsL := []) (rest := [(.double (FP.l2d ci.toInt64)), (.ref a1)]) (lenOf own_pd16 rfl) rfl (by show 2 * 0 + _ ≤ _; exact Nat.le_of_eq rfl) (hb hby own_d31_26) (fun _ _ => ⟨rfl, e176, (by decide : 0 + 0 ≤ _), (by decide : 0 + 0 ≤ _)⟩)
  dsimp only [Pt.U, Pt.locs, Pt.cells, Pt.slots] at X177 l177 y177 z177 st177 hQ177
  subst l177 y177 z177
  obtain ⟨rfl, N177q, e177⟩ := hQ177
  have N177 := Fr.app N175 N177q
  refine own_by (fun t k => st177.trans k) ?_
  show own_Go p.tables e below K (T177.setTop (mkF m 29 #[.val (.ref a1), .val (.double (FP.l2d t)), .second] [(.int ((1 : Int32) + u)), (.double (FP.l2d ci.toInt64)), (.ref a1)]))
  refine own_by (fun t k => XS.i2dS X177.here hx rfl (hb hby own_d31_29) rfl (i2d_w _) k) ?_
  show own_Go p.tables e below K (T177.setTop (mkF m 30 #[.val (.ref a1), .val (.double (FP.l2d t)), .second] [(.double (FP.l2d ((1 : Int32) + u).toInt64)), (.double (FP.l2d ci.toInt64)), (.ref a1)]))
  refine own_by (fun t k => XS.dmulS X177.here hx rfl (hb hby own_d31_30) rfl (by rw [hM1]; exact nn_w rfl) hM1 k) ?_
  show own_Go p.tables e below K (T177.setTop (mkF m 31 #[.val (.ref a1), .val (.double (FP.l2d t)), .second] [(.double (FP.l2d (ci.toInt64 * ((1 : Int32) + u).toInt64))), (.ref a1)]))
  refine own_by (fun t k => XS.aloadN X177.here hx rfl (hb hby own_d31_31) rfl rfl k) ?_
  show own_Go p.tables e below K (T177.setTop (mkF m 32 #[.val (.ref a1), .val (.double (FP.l2d t)), .second] [(.ref a1), (.double (FP.l2d (ci.toInt64 * ((1 : Int32) + u).toInt64))), (.ref a1)]))
  obtain ⟨T178, X178, e178, st178⟩ := getF X177 hx hZ hown (host := "") (Or.inl (hw _ (List.mem_of_getElem? (i := 240) rfl))) Via.refl e177 F175_taskCostSum_a1 (g := (mkF m 32 #[.val (.ref a1), .val (.double (FP.l2d t)), .second] [(.ref a1), (.double (FP.l2d (ci.toInt64 * ((1 : Int32) + u).toInt64))), (.ref a1)])) rfl rfl (hb hby own_d31_32)
  refine own_by st178 ?_
  show own_Go p.tables e below K (T178.setTop (mkF m 35 #[.val (.ref a1), .val (.double (FP.l2d t)), .second] [(.double (FP.l2d (s0 + t))), (.double (FP.l2d (ci.toInt64 * ((1 : Int32) + u).toInt64))), (.ref a1)]))
  refine own_by (fun t k => XS.dmulS X178.here hx rfl (hb hby own_d31_35) rfl hM2.1 rfl k) ?_
  show own_Go p.tables e below K (T178.setTop (mkF m 36 #[.val (.ref a1), .val (.double (FP.l2d t)), .second] [(.double (FP.dmul (FP.l2d (ci.toInt64 * ((1 : Int32) + u).toInt64)) (FP.l2d (s0 + t)))), (.ref a1)]))
  obtain ⟨T179, h179, X179, e179, W179, st179⟩ := putF X178 hx hZ hown (host := "") (Or.inl (hw _ (List.mem_of_getElem? (i := 247) rfl))) Via.refl e178 F175_cost_a1 Ex175_a1 (Or.inl (hw _ (List.mem_of_getElem? (i := 248) rfl))) (hw _ (List.mem_of_getElem? (i := 201) rfl)) (ty := .double) (by decide) rfl rfl (g := (mkF m 36 #[.val (.ref a1), .val (.double (FP.l2d t)), .second] [(.double (FP.dmul (FP.l2d (ci.toInt64 * ((1 : Int32) + u).toInt64)) (FP.l2d (s0 + t)))), (.ref a1)])) rfl rfl (hb hby own_d31_36)
  refine own_by st179 ?_
  have F179_coefficient_a1 := F175_coefficient_a1.other W179 (Or.inr (slot_ne (Or.inr (hw _ (List.mem_of_getElem? (i := 213) rfl))) (Or.inl (hw _ (List.mem_of_getElem? (i := 248) rfl))) (by decide) (t := .double) (t' := .double) (by decide) (by decide)))
  have F179_usedCount_a1 := F175_usedCount_a1.other W179 (Or.inr (slot_ne (Or.inr (hw _ (List.mem_of_getElem? (i := 229) rfl))) (Or.inl (hw _ (List.mem_of_getElem? (i := 248) rfl))) (by decide) (t := .int) (t' := .double) (by decide) (by decide)))
  have F179_taskCount_a1 := F175_taskCount_a1.other W179 (Or.inr (slot_ne (Or.inl (hw _ (List.mem_of_getElem? (i := 231) rfl))) (Or.inl (hw _ (List.mem_of_getElem? (i := 248) rfl))) (by decide) (t := .int) (t' := .double) (by decide) (by decide)))
  have F179_taskCostSum_a1 := F175_taskCostSum_a1.other W179 (Or.inr (slot_ne (Or.inl (hw _ (List.mem_of_getElem? (i := 241) rfl))) (Or.inl (hw _ (List.mem_of_getElem? (i := 248) rfl))) (by decide) (t := .double) (t' := .double) (by decide) (by decide)))
  have F179_cost_a1 := F175_cost_a1.same W179
  have Ex179_a1 := Ex175_a1.wr W179
  have K179 := K175.wr W179 (Or.inl (by simp))
  have Z179 := Nat.le_trans Z175 (Keep.of_wr W179).1
  have N179 := Fr.snoc X179 N177 ga
  show own_Go p.tables e below K (T179.setTop (mkF m 39 #[.val (.ref a1), .val (.double (FP.l2d t)), .second] []))
  exact own_retV X179 hx hret (hb hby own_d31_39) (hK none X179 (fun _ => rfl) (by rw [e179]; exact ⟨rfl, N179, K179, ⟨Ex179_a1, F179_coefficient_a1, F179_usedCount_a1, F179_taskCount_a1, F179_taskCostSum_a1, F179_cost_a1⟩⟩) (by decide) (by decide))
theorem own_efgiv1 (m : MethodId) (a1 : Addr) (d1 : UInt64) : entryFrame m #[(.ref a1), (.double d1)] 3 = mkF m 0 #[.val (.ref a1), .val (.double d1), .second] [] := by first | (simp [entryFrame, mkF, argsToLocals, Value.category]; done) | rfl
def own_Qgiv1 (Z : State) (a1 : Addr) (d1 : UInt64) (ci : Int32) (u : Int32) (s0 : Int64) (t : Int64) (co : UInt64) (h0 : Heap) (n0 : Nat) (v : Option Value) (h : Heap) (L : List Loc) : Prop := v = none ∧ Fr n0 L ∧ Keep h0 h [a1] ∧ own_CS Z h a1 (FP.l2d ci.toInt64) u (2 : Int32) (FP.l2d (s0 + t)) (FP.dmul (FP.l2d (ci.toInt64 * ((2 : Int32) + u).toInt64)) (FP.l2d (s0 + t)))
set_option maxRecDepth 65536 in
set_option maxHeartbeats 40000000 in
theorem own_rmgiv1 (l : Launch) (Z : State) (aw : Array Value) (hw : ∀ d ∈ tables_1, d.before aw Z = true) (ws : List Jvm.Cond) (a1 : Addr) (d1 : UInt64) (ci : Int32) (u : Int32) (s0 : Int64) (t : Int64) (co : UInt64) (h0 : Heap) (n0 : Nat) (Z0 : n0 ≤ h0.size) (B0 : own_CS Z h0 a1 (FP.l2d ci.toInt64) u 1 (FP.l2d s0) co) (ga : n0 ≤ a1) (hd1 : FP.l2d t = d1) (hci : -65535 ≤ ci.toInt ∧ ci.toInt ≤ 65535) (hu : u = 0 ∨ u = 1 ∨ u = 2 ∨ u = 3) (hs : -1073741823 ≤ s0.toInt ∧ s0.toInt ≤ 1073741823) (ht : -1073741823 ≤ t.toInt ∧ t.toInt ≤ 1073741823) :
    MetFree l (⟨"com/example/skyroster/skyroster/CostShare", "give", "(D)V"⟩ : MethodName) (head1 (Jvm.Cond.code (⟨"com/example/skyroster/skyroster/CostShare", "give", "(D)V"⟩ : MethodName) prog_2_method_4_code 3 none :: ws) ({ frames := 1, cells := 0, slots := 0, locals := 20 } : Room)) (fun a U => a = #[(.ref a1), (.double d1)] ∧ Z.Warmed39 U.vm ∧ U.heap = h0) (fun _ _ _ _ _ => True) (fun _ U o U' => ∃ v L, o = .returned v ∧ own_Qgiv1 Z a1 d1 ci u s0 t co h0 n0 v U'.heap L ∧ FrameEnd U o U' L ({ frames := 1, cells := 0, slots := 0, locals := 20 } : Room).cells ({ frames := 1, cells := 0, slots := 0, locals := 20 } : Room).slots) := by
  refine own_met (Q := own_Qgiv1 Z a1 d1 ci u s0 t co h0 n0) (plainFor_of_name own_pn27) ?_
  intro p e s m below meth c s₁ K hx hby hml hown hnm hret hZ X0 e0 hK
  have hown : s.vm.findClass "com/example/skyroster/skyroster/CostShare" = some m.cls := hown
  have N0 := Fr.nil n0
  refine own_by (fun t k => castTop (own_efgiv1 m a1 d1) k) ?_
  subst hd1
  have hci' : -65535 ≤ ci.toInt64.toInt ∧ ci.toInt64.toInt ≤ 65535 := by rw [Int32.toInt_toInt64]; exact hci
  have hA := own_ad hs.1 hs.2 ht.1 ht.2
  have hM1 := own_m1 hci'.1 hci'.2 (own_wc2 hu).1 (own_wc2 hu).2
  have hMt := own_mt hci'.1 hci'.2 (own_wc2 hu).1 (own_wc2 hu).2
  have hM2 := own_m2 hMt.1 hMt.2 hA.2.1 hA.2.2
  show own_Go p.tables e below K (s₁.setTop (mkF m 0 #[.val (.ref a1), .val (.double (FP.l2d t)), .second] []))
  refine own_by (fun t k => XS.aloadN X0.here hx rfl (hb hby own_d31_0) rfl rfl k) ?_
  show own_Go p.tables e below K (s₁.setTop (mkF m 1 #[.val (.ref a1), .val (.double (FP.l2d t)), .second] [(.ref a1)]))
  refine own_by (fun t k => XS.dup X0.here hx rfl (hb hby own_d31_1) rfl rfl k) ?_
  show own_Go p.tables e below K (s₁.setTop (mkF m 2 #[.val (.ref a1), .val (.double (FP.l2d t)), .second] [(.ref a1), (.ref a1)]))
  obtain ⟨T180, X180, e180, st180⟩ := getF X0 hx hZ hown (host := "") (Or.inl (hw _ (List.mem_of_getElem? (i := 239) rfl))) Via.refl e0 B0.2.2.2.1 (g := (mkF m 2 #[.val (.ref a1), .val (.double (FP.l2d t)), .second] [(.ref a1), (.ref a1)])) rfl rfl (hb hby own_d31_2)
  refine own_by st180 ?_
  show own_Go p.tables e below K (T180.setTop (mkF m 5 #[.val (.ref a1), .val (.double (FP.l2d t)), .second] [(.int (1 : Int32)), (.ref a1)]))
  refine own_by (fun t k => XS.iconst X180.here hx rfl (hb hby own_d31_5) k) ?_
  show own_Go p.tables e below K (T180.setTop (mkF m 6 #[.val (.ref a1), .val (.double (FP.l2d t)), .second] [(.int (1 : Int32)), (.int (1 : Int32)), (.ref a1)]))
  refine own_by (fun t k => XS.iadd X180.here hx rfl (hb hby own_d31_6) rfl k) ?_
  show own_Go p.tables e below K (T180.setTop (mkF m 7 #[.val (.ref a1), .val (.double (FP.l2d t)), .second] [(.int (2 : Int32)), (.ref a1)]))
  obtain ⟨T181, h181, X181, e181, W181, st181⟩ := putF X180 hx hZ hown (host := "") (Or.inl (hw _ (List.mem_of_getElem? (i := 239) rfl))) Via.refl e180 B0.2.2.2.1 B0.1 (Or.inl (hw _ (List.mem_of_getElem? (i := 231) rfl))) (hw _ (List.mem_of_getElem? (i := 201) rfl)) (ty := .int) (by decide) rfl rfl (g := (mkF m 7 #[.val (.ref a1), .val (.double (FP.l2d t)), .second] [(.int (2 : Int32)), (.ref a1)])) rfl rfl (hb hby own_d31_7)
  refine own_by st181 ?_
  have F181_coefficient_a1 := B0.2.1.other W181 (Or.inr (slot_ne (Or.inr (hw _ (List.mem_of_getElem? (i := 213) rfl))) (Or.inl (hw _ (List.mem_of_getElem? (i := 231) rfl))) (by decide) (t := .double) (t' := .int) (by decide) (by decide)))
  have F181_usedCount_a1 := B0.2.2.1.other W181 (Or.inr (slot_ne (Or.inr (hw _ (List.mem_of_getElem? (i := 229) rfl))) (Or.inl (hw _ (List.mem_of_getElem? (i := 231) rfl))) (by decide) (t := .int) (t' := .int) (by decide) (by decide)))
  have F181_taskCount_a1 := B0.2.2.2.1.same W181
  have F181_taskCostSum_a1 := B0.2.2.2.2.1.other W181 (Or.inr (slot_ne (Or.inl (hw _ (List.mem_of_getElem? (i := 241) rfl))) (Or.inl (hw _ (List.mem_of_getElem? (i := 231) rfl))) (by decide) (t := .double) (t' := .int) (by decide) (by decide)))
  have F181_cost_a1 := B0.2.2.2.2.2.other W181 (Or.inr (slot_ne (Or.inl (hw _ (List.mem_of_getElem? (i := 248) rfl))) (Or.inl (hw _ (List.mem_of_getElem? (i := 231) rfl))) (by decide) (t := .double) (t' := .int) (by decide) (by decide)))
  have Ex181_a1 := B0.1.wr W181
  have K181 := (Keep.refl h0 [a1]).wr W181 (Or.inl (by simp))
  have Z181 := Nat.le_trans Z0 (Keep.of_wr W181).1
  have N181 := Fr.snoc X181 N0 ga
  show own_Go p.tables e below K (T181.setTop (mkF m 10 #[.val (.ref a1), .val (.double (FP.l2d t)), .second] []))
  refine own_by (fun t k => XS.aloadN X181.here hx rfl (hb hby own_d31_10) rfl rfl k) ?_
  show own_Go p.tables e below K (T181.setTop (mkF m 11 #[.val (.ref a1), .val (.double (FP.l2d t)), .second] [(.ref a1)]))
  refine own_by (fun t k => XS.dup X181.here hx rfl (hb hby own_d31_11) rfl rfl k) ?_
  show own_Go p.tables e below K (T181.setTop (mkF m 12 #[.val (.ref a1), .val (.double (FP.l2d t)), .second] [(.ref a1), (.ref a1)]))
  obtain ⟨T182, X182, e182, st182⟩ := getF X181 hx hZ hown (host := "") (Or.inl (hw _ (List.mem_of_getElem? (i := 240) rfl))) Via.refl e181 F181_taskCostSum_a1 (g := (mkF m 12 #[.val (.ref a1), .val (.double (FP.l2d t)), .second] [(.ref a1), (.ref a1)])) rfl rfl (hb hby own_d31_12)
  refine own_by st182 ?_
  show own_Go p.tables e below K (T182.setTop (mkF m 15 #[.val (.ref a1), .val (.double (FP.l2d t)), .second] [(.double (FP.l2d s0)), (.ref a1)]))
  refine own_by (fun t k => XS.dloadN X182.here hx rfl (hb hby own_d31_15) rfl k) ?_
  show own_Go p.tables e below K (T182.setTop (mkF m 16 #[.val (.ref a1), .val (.double (FP.l2d t)), .second] [(.double (FP.l2d t)), (.double (FP.l2d s0)), (.ref a1)]))
  refine own_by (fun t k => XS.daddS X182.here hx rfl (hb hby own_d31_16) rfl (by rw [hA.1]; exact nn_w rfl) hA.1 k) ?_
  show own_Go p.tables e below K (T182.setTop (mkF m 17 #[.val (.ref a1), .val (.double (FP.l2d t)), .second] [(.double (FP.l2d (s0 + t))), (.ref a1)]))
  obtain ⟨T183, h183, X183, e183, W183, st183⟩ := putF X182 hx hZ hown (host := "") (Or.inl (hw _ (List.mem_of_getElem? (i := 240) rfl))) Via.refl e182 F181_taskCostSum_a1 Ex181_a1 (Or.inl (hw _ (List.mem_of_getElem? (i := 241) rfl))) (hw _ (List.mem_of_getElem? (i := 201) rfl)) (ty := .double) (by decide) rfl rfl (g := (mkF m 17 #[.val (.ref a1), .val (.double (FP.l2d t)), .second] [(.double (FP.l2d (s0 + t))), (.ref a1)])) rfl rfl (hb hby own_d31_17)
  refine own_by st183 ?_
  have F183_coefficient_a1 := F181_coefficient_a1.other W183 (Or.inr (slot_ne (Or.inr (hw _ (List.mem_of_getElem? (i := 213) rfl))) (Or.inl (hw _ (List.mem_of_getElem? (i := 241) rfl))) (by decide) (t := .double) (t' := .double) (by decide) (by decide)))
  have F183_usedCount_a1 := F181_usedCount_a1.other W183 (Or.inr (slot_ne (Or.inr (hw _ (List.mem_of_getElem? (i := 229) rfl))) (Or.inl (hw _ (List.mem_of_getElem? (i := 241) rfl))) (by decide) (t := .int) (t' := .double) (by decide) (by decide)))
  have F183_taskCount_a1 := F181_taskCount_a1.other W183 (Or.inr (slot_ne (Or.inl (hw _ (List.mem_of_getElem? (i := 231) rfl))) (Or.inl (hw _ (List.mem_of_getElem? (i := 241) rfl))) (by decide) (t := .int) (t' := .double) (by decide) (by decide)))
  have F183_taskCostSum_a1 := F181_taskCostSum_a1.same W183
  have F183_cost_a1 := F181_cost_a1.other W183 (Or.inr (slot_ne (Or.inl (hw _ (List.mem_of_getElem? (i := 248) rfl))) (Or.inl (hw _ (List.mem_of_getElem? (i := 241) rfl))) (by decide) (t := .double) (t' := .double) (by decide) (by decide)))
  have Ex183_a1 := Ex181_a1.wr W183
  have K183 := K181.wr W183 (Or.inl (by simp))
  have Z183 := Nat.le_trans Z181 (Keep.of_wr W183).1
  have N183 := Fr.snoc X183 N181 ga
  show own_Go p.tables e below K (T183.setTop (mkF m 20 #[.val (.ref a1), .val (.double (FP.l2d t)), .second] []))
  refine own_by (fun t k => XS.aloadN X183.here hx rfl (hb hby own_d31_20) rfl rfl k) ?_
  show own_Go p.tables e below K (T183.setTop (mkF m 21 #[.val (.ref a1), .val (.double (FP.l2d t)), .second] [(.ref a1)]))
  refine own_by (fun t k => XS.aloadN X183.here hx rfl (hb hby own_d31_21) rfl rfl k) ?_
  show own_Go p.tables e below K (T183.setTop (mkF m 22 #[.val (.ref a1), .val (.double (FP.l2d t)), .second] [(.ref a1), (.ref a1)]))
  obtain ⟨T184, X184, e184, st184⟩ := getF X183 hx hZ hown (host := "") (Or.inl (hw _ (List.mem_of_getElem? (i := 212) rfl))) Via.refl e183 F183_coefficient_a1 (g := (mkF m 22 #[.val (.ref a1), .val (.double (FP.l2d t)), .second] [(.ref a1), (.ref a1)])) rfl rfl (hb hby own_d31_22)
  refine own_by st184 ?_
  show own_Go p.tables e below K (T184.setTop (mkF m 25 #[.val (.ref a1), .val (.double (FP.l2d t)), .second] [(.double (FP.l2d ci.toInt64)), (.ref a1)]))
  refine own_by (fun t k => XS.aloadN X184.here hx rfl (hb hby own_d31_25) rfl rfl k) ?_
  show own_Go p.tables e below K (T184.setTop (mkF m 26 #[.val (.ref a1), .val (.double (FP.l2d t)), .second] [(.ref a1), (.double (FP.l2d ci.toInt64)), (.ref a1)]))
  obtain ⟨cq185, kq185, q185a, q185b, q185c⟩ := isOf hZ e184 Ex183_a1
  obtain ⟨_, _, ⟨T185, L185, k185, n185⟩, -, X185, ⟨Lc185, hQ185, l185, y185, z185⟩, st185⟩ := X184.virtualBack hx (y := (⟨"com/example/skyroster/skyroster/CostShare", "windowCount", "()I"⟩ : MethodName)) (z := (⟨"com/example/skyroster/skyroster/CostShare", "windowCount", "()I"⟩ : MethodName)) hown (mvT hZ (hw _ (List.mem_of_getElem? (i := 242) rfl))) (mvT hZ (hw _ (List.mem_of_getElem? (i := 243) rfl))) (notFace_of_selects (args := #[]) (mvT hZ (hw _ (List.mem_of_getElem? (i := 245) rfl)))) (mvT hZ (hw _ (List.mem_of_getElem? (i := 245) rfl))) (mvT hZ (hw _ (List.mem_of_getElem? (i := 244) rfl))) (by decide) (backOf (W := 3) (own_rmwc l Z aw hw [] a1 _ u (2 : Int32) _ _ h183 n0 Z183 ⟨Ex183_a1, F183_coefficient_a1, F183_usedCount_a1, F183_taskCount_a1, F183_taskCostSum_a1, F183_cost_a1⟩) hZ (hw _ (List.mem_of_getElem? (i := 246) rfl)) (hw _ (List.mem_of_getElem? (i := 202) rfl)) (by decide) (by decide)) q185a q185c (g := (mkF m 26 #[.val (.ref a1), .val (.double (FP.l2d t)), .second] [(.ref a1), (.double (FP.l2d ci.toInt64)), (.ref a1)])) rfl (by rw [hml]; rfl) (Steps.refl _) (argsL := []) (rest := [(.double (FP.l2d ci.toInt64)), (.ref a1)]) (lenOf own_pd16 rfl) rfl (by show 2 * 0 + _ ≤ _; exact Nat.le_of_eq rfl) (hb hby own_d31_26) (fun _ _ => ⟨rfl, e184, (by decide : 0 + 0 ≤ _), (by decide : 0 + 0 ≤ _)⟩)
  dsimp only [Pt.U, Pt.locs, Pt.cells, Pt.slots] at X185 l185 y185 z185 st185 hQ185
  subst l185 y185 z185
  obtain ⟨rfl, N185q, e185⟩ := hQ185
  have N185 := Fr.app N183 N185q
  refine own_by (fun t k => st185.trans k) ?_
  show own_Go p.tables e below K (T185.setTop (mkF m 29 #[.val (.ref a1), .val (.double (FP.l2d t)), .second] [(.int ((2 : Int32) + u)), (.double (FP.l2d ci.toInt64)), (.ref a1)]))
  refine own_by (fun t k => XS.i2dS X185.here hx rfl (hb hby own_d31_29) rfl (i2d_w _) k) ?_
  show own_Go p.tables e below K (T185.setTop (mkF m 30 #[.val (.ref a1), .val (.double (FP.l2d t)), .second] [(.double (FP.l2d ((2 : Int32) + u).toInt64)), (.double (FP.l2d ci.toInt64)), (.ref a1)]))
  refine own_by (fun t k => XS.dmulS X185.here hx rfl (hb hby own_d31_30) rfl (by rw [hM1]; exact nn_w rfl) hM1 k) ?_
  show own_Go p.tables e below K (T185.setTop (mkF m 31 #[.val (.ref a1), .val (.double (FP.l2d t)), .second] [(.double (FP.l2d (ci.toInt64 * ((2 : Int32) + u).toInt64))), (.ref a1)]))
  refine own_by (fun t k => XS.aloadN X185.here hx rfl (hb hby own_d31_31) rfl rfl k) ?_
  show own_Go p.tables e below K (T185.setTop (mkF m 32 #[.val (.ref a1), .val (.double (FP.l2d t)), .second] [(.ref a1), (.double (FP.l2d (ci.toInt64 * ((2 : Int32) + u).toInt64))), (.ref a1)]))
  obtain ⟨T186, X186, e186, st186⟩ := getF X185 hx hZ hown (host := "") (Or.inl (hw _ (List.mem_of_getElem? (i := 240) rfl))) Via.refl e185 F183_taskCostSum_a1 (g := (mkF m 32 #[.val (.ref a1), .val (.double (FP.l2d t)), .second] [(.ref a1), (.double (FP.l2d (ci.toInt64 * ((2 : Int32) + u).toInt64))), (.ref a1)])) rfl rfl (hb hby own_d31_32)
  refine own_by st186 ?_
  show own_Go p.tables e below K (T186.setTop (mkF m 35 #[.val (.ref a1), .val (.double (FP.l2d t)), .second] [(.double (FP.l2d (s0 + t))), (.double (FP.l2d (ci.toInt64 * ((2 : Int32) + u).toInt64))), (.ref a1)]))
  refine own_by (fun t k => XS.dmulS X186.here hx rfl (hb hby own_d31_35) rfl hM2.1 rfl k) ?_
  show own_Go p.tables e below K (T186.setTop (mkF m 36 #[.val (.ref a1), .val (.double (FP.l2d t)), .second] [(.double (FP.dmul (FP.l2d (ci.toInt64 * ((2 : Int32) + u).toInt64)) (FP.l2d (s0 + t)))), (.ref a1)]))
  obtain ⟨T187, h187, X187, e187, W187, st187⟩ := putF X186 hx hZ hown (host := "") (Or.inl (hw _ (List.mem_of_getElem? (i := 247) rfl))) Via.refl e186 F183_cost_a1 Ex183_a1 (Or.inl (hw _ (List.mem_of_getElem? (i := 248) rfl))) (hw _ (List.mem_of_getElem? (i := 201) rfl)) (ty := .double) (by decide) rfl rfl (g := (mkF m 36 #[.val (.ref a1), .val (.double (FP.l2d t)), .second] [(.double (FP.dmul (FP.l2d (ci.toInt64 * ((2 : Int32) + u).toInt64)) (FP.l2d (s0 + t)))), (.ref a1)])) rfl rfl (hb hby own_d31_36)
  refine own_by st187 ?_
  have F187_coefficient_a1 := F183_coefficient_a1.other W187 (Or.inr (slot_ne (Or.inr (hw _ (List.mem_of_getElem? (i := 213) rfl))) (Or.inl (hw _ (List.mem_of_getElem? (i := 248) rfl))) (by decide) (t := .double) (t' := .double) (by decide) (by decide)))
  have F187_usedCount_a1 := F183_usedCount_a1.other W187 (Or.inr (slot_ne (Or.inr (hw _ (List.mem_of_getElem? (i := 229) rfl))) (Or.inl (hw _ (List.mem_of_getElem? (i := 248) rfl))) (by decide) (t := .int) (t' := .double) (by decide) (by decide)))
  have F187_taskCount_a1 := F183_taskCount_a1.other W187 (Or.inr (slot_ne (Or.inl (hw _ (List.mem_of_getElem? (i := 231) rfl))) (Or.inl (hw _ (List.mem_of_getElem? (i := 248) rfl))) (by decide) (t := .int) (t' := .double) (by decide) (by decide)))
  have F187_taskCostSum_a1 := F183_taskCostSum_a1.other W187 (Or.inr (slot_ne (Or.inl (hw _ (List.mem_of_getElem? (i := 241) rfl))) (Or.inl (hw _ (List.mem_of_getElem? (i := 248) rfl))) (by decide) (t := .double) (t' := .double) (by decide) (by decide)))
  have F187_cost_a1 := F183_cost_a1.same W187
  have Ex187_a1 := Ex183_a1.wr W187
  have K187 := K183.wr W187 (Or.inl (by simp))
  have Z187 := Nat.le_trans Z183 (Keep.of_wr W187).1
  have N187 := Fr.snoc X187 N185 ga
  show own_Go p.tables e below K (T187.setTop (mkF m 39 #[.val (.ref a1), .val (.double (FP.l2d t)), .second] []))
  exact own_retV X187 hx hret (hb hby own_d31_39) (hK none X187 (fun _ => rfl) (by rw [e187]; exact ⟨rfl, N187, K187, ⟨Ex187_a1, F187_coefficient_a1, F187_usedCount_a1, F187_taskCount_a1, F187_taskCostSum_a1, F187_cost_a1⟩⟩) (by decide) (by decide))
theorem own_pd17 : parseMethodDescriptor "(Ljava/lang/String;Ljava/lang/String;Ljava/util/List;DJJJLjava/util/List;)V" = some ⟨[(.object "java/lang/String"), (.object "java/lang/String"), (.object "java/util/List"), .double, .long, .long, .long, (.object "java/util/List")], none⟩ := by decide +kernel
theorem own_pd18 : parseMethodDescriptor "(Lcom/example/skyroster/skyroster/Satellite;)V" = some ⟨[(.object "com/example/skyroster/skyroster/Satellite")], none⟩ := by decide +kernel
theorem own_pd19 : parseMethodDescriptor "(D)V" = some ⟨[.double], none⟩ := by decide +kernel
theorem own_pd20 : parseMethodDescriptor "(JJJ)V" = some ⟨[.long, .long, .long], none⟩ := by decide +kernel
theorem own_pd21 : parseMethodDescriptor "(Ljava/lang/Object;)Z" = some ⟨[(.object "java/lang/Object")], some .boolean⟩ := by decide +kernel
theorem own_pn0 : plainName "com/example/skyroster/skyroster/CostShareGivePinLaw" = true := by first | (simp [plainName, overriddenIn]; done) | decide +kernel
theorem own_ef0 (m : MethodId) (q1 q2 q3 q4 : Int32) : entryFrame m #[(.int q1), (.int q2), (.int q3), (.int q4)] maxLocals = mkF m 0 #[.val (.int q1), .val (.int q2), .val (.int q3), .val (.int q4), .unset, .unset, .unset, .unset, .unset, .unset, .unset, .unset, .unset, .unset, .unset, .unset, .unset, .unset, .unset, .unset, .unset, .unset, .unset] [] := by first | (simp [entryFrame, mkF, argsToLocals, Value.category, maxLocals]; done) | rfl
def own_Q0 (Z : State) (v : Option Value) (h : Heap) (L : List Loc) : Prop := v = some (.int (1 : Int32)) ∧ Fr Z.heap.size L
set_option maxRecDepth 65536 in
set_option maxHeartbeats 40000000 in
theorem own_rm0 (l : Launch) (Z : State) (aw : Array Value) (hw : ∀ d ∈ tables_1, d.before aw Z = true) (ws : List Jvm.Cond) (q1 : Int32) (q2 : Int32) (q3 : Int32) (q4 : Int32) (dd : Addr) (lz : Addr) (ez : Addr) (em : Addr) (mr : Addr) (S0 : own_St Z dd lz ez em mr) :
    MetFree l x (head1 (Jvm.Cond.code x code maxLocals ret :: ws) room_1) (fun a U => a = #[(.int q1), (.int q2), (.int q3), (.int q4)] ∧ U = Z) (fun _ _ _ _ _ => True) (fun _ U o U' => ∃ v L, o = .returned v ∧ own_Q0 Z v U'.heap L ∧ ReturnedEndW U o U' L 18 84) := by
  refine own_metW (Q := own_Q0 Z) (plainFor_of_name own_pn0) ?_
  intro p e m below meth c s₁ K hx hby hml hown hnm hret X0 e0 hK
  have hZ := State.Warmed39.refl Z
  obtain ⟨n0, hn0⟩ : ∃ n, n = Z.heap.size := ⟨_, rfl⟩
  have N0 := Fr.nil n0
  have Z0 : n0 ≤ Z.heap.size := Nat.le_of_eq hn0
  have O0 : Old Z n0 Z.heap := by rw [hn0]; exact Old.start Z
  refine own_by (fun t k => castTop (own_ef0 m q1 q2 q3 q4) k) ?_
  show own_Go p.tables e below K (s₁.setTop (mkF m 0 #[.val (.int q1), .val (.int q2), .val (.int q3), .val (.int q4), .unset, .unset, .unset, .unset, .unset, .unset, .unset, .unset, .unset, .unset, .unset, .unset, .unset, .unset, .unset, .unset, .unset, .unset, .unset] []))
  refine own_by (fun t k => XS.iloadN X0.here hx rfl (hb hby at_0) rfl k) ?_
  show own_Go p.tables e below K (s₁.setTop (mkF m 1 #[.val (.int q1), .val (.int q2), .val (.int q3), .val (.int q4), .unset, .unset, .unset, .unset, .unset, .unset, .unset, .unset, .unset, .unset, .unset, .unset, .unset, .unset, .unset, .unset, .unset, .unset, .unset] [(.int q1)]))
  refine own_by (fun t k => X0.ldcInt hx hown (mvT hZ (hw _ (List.mem_of_getElem? (i := 0) rfl))) (g := (mkF m 1 #[.val (.int q1), .val (.int q2), .val (.int q3), .val (.int q4), .unset, .unset, .unset, .unset, .unset, .unset, .unset, .unset, .unset, .unset, .unset, .unset, .unset, .unset, .unset, .unset, .unset, .unset, .unset] [(.int q1)])) rfl (hb hby at_1) _ k) ?_
  show own_Go p.tables e below K (s₁.setTop (mkF m 3 #[.val (.int q1), .val (.int q2), .val (.int q3), .val (.int q4), .unset, .unset, .unset, .unset, .unset, .unset, .unset, .unset, .unset, .unset, .unset, .unset, .unset, .unset, .unset, .unset, .unset, .unset, .unset] [(.int (65536 : Int32)), (.int q1)]))
  refine own_by (fun t k => iremM X0 hx rfl (hb hby at_3) rfl (by decide) k) ?_
  show own_Go p.tables e below K (s₁.setTop (mkF m 4 #[.val (.int q1), .val (.int q2), .val (.int q3), .val (.int q4), .unset, .unset, .unset, .unset, .unset, .unset, .unset, .unset, .unset, .unset, .unset, .unset, .unset, .unset, .unset, .unset, .unset, .unset, .unset] [(.int (q1 % (65536 : Int32)))]))
  refine own_by (fun t k => XS.istore X0.here hx rfl (hb hby at_4) rfl (l' := #[.val (.int q1), .val (.int q2), .val (.int q3), .val (.int q4), .val (.int (q1 % (65536 : Int32))), .unset, .unset, .unset, .unset, .unset, .unset, .unset, .unset, .unset, .unset, .unset, .unset, .unset, .unset, .unset, .unset, .unset, .unset]) rfl k) ?_
  show own_Go p.tables e below K (s₁.setTop (mkF m 6 #[.val (.int q1), .val (.int q2), .val (.int q3), .val (.int q4), .val (.int (q1 % (65536 : Int32))), .unset, .unset, .unset, .unset, .unset, .unset, .unset, .unset, .unset, .unset, .unset, .unset, .unset, .unset, .unset, .unset, .unset, .unset] []))
  refine own_by (fun t k => XS.iloadN X0.here hx rfl (hb hby at_6) rfl k) ?_
  show own_Go p.tables e below K (s₁.setTop (mkF m 7 #[.val (.int q1), .val (.int q2), .val (.int q3), .val (.int q4), .val (.int (q1 % (65536 : Int32))), .unset, .unset, .unset, .unset, .unset, .unset, .unset, .unset, .unset, .unset, .unset, .unset, .unset, .unset, .unset, .unset, .unset, .unset] [(.int q2)]))
  refine own_by (fun t k => XS.iconst X0.here hx rfl (hb hby at_7) k) ?_
  show own_Go p.tables e below K (s₁.setTop (mkF m 8 #[.val (.int q1), .val (.int q2), .val (.int q3), .val (.int q4), .val (.int (q1 % (65536 : Int32))), .unset, .unset, .unset, .unset, .unset, .unset, .unset, .unset, .unset, .unset, .unset, .unset, .unset, .unset, .unset, .unset, .unset, .unset] [(.int (3 : Int32)), (.int q2)]))
  refine own_by (fun t k => XS.iand X0.here hx rfl (hb hby at_8) rfl k) ?_
  show own_Go p.tables e below K (s₁.setTop (mkF m 9 #[.val (.int q1), .val (.int q2), .val (.int q3), .val (.int q4), .val (.int (q1 % (65536 : Int32))), .unset, .unset, .unset, .unset, .unset, .unset, .unset, .unset, .unset, .unset, .unset, .unset, .unset, .unset, .unset, .unset, .unset, .unset] [(.int (q2 &&& (3 : Int32)))]))
  refine own_by (fun t k => XS.istore X0.here hx rfl (hb hby at_9) rfl (l' := #[.val (.int q1), .val (.int q2), .val (.int q3), .val (.int q4), .val (.int (q1 % (65536 : Int32))), .val (.int (q2 &&& (3 : Int32))), .unset, .unset, .unset, .unset, .unset, .unset, .unset, .unset, .unset, .unset, .unset, .unset, .unset, .unset, .unset, .unset, .unset]) rfl k) ?_
  show own_Go p.tables e below K (s₁.setTop (mkF m 11 #[.val (.int q1), .val (.int q2), .val (.int q3), .val (.int q4), .val (.int (q1 % (65536 : Int32))), .val (.int (q2 &&& (3 : Int32))), .unset, .unset, .unset, .unset, .unset, .unset, .unset, .unset, .unset, .unset, .unset, .unset, .unset, .unset, .unset, .unset, .unset] []))
  refine own_by (fun t k => XS.iloadN X0.here hx rfl (hb hby at_11) rfl k) ?_
  show own_Go p.tables e below K (s₁.setTop (mkF m 12 #[.val (.int q1), .val (.int q2), .val (.int q3), .val (.int q4), .val (.int (q1 % (65536 : Int32))), .val (.int (q2 &&& (3 : Int32))), .unset, .unset, .unset, .unset, .unset, .unset, .unset, .unset, .unset, .unset, .unset, .unset, .unset, .unset, .unset, .unset, .unset] [(.int q3)]))
  refine own_by (fun t k => X0.ldcInt hx hown (mvT hZ (hw _ (List.mem_of_getElem? (i := 1) rfl))) (g := (mkF m 12 #[.val (.int q1), .val (.int q2), .val (.int q3), .val (.int q4), .val (.int (q1 % (65536 : Int32))), .val (.int (q2 &&& (3 : Int32))), .unset, .unset, .unset, .unset, .unset, .unset, .unset, .unset, .unset, .unset, .unset, .unset, .unset, .unset, .unset, .unset, .unset] [(.int q3)])) rfl (hb hby at_12) _ k) ?_
  show own_Go p.tables e below K (s₁.setTop (mkF m 14 #[.val (.int q1), .val (.int q2), .val (.int q3), .val (.int q4), .val (.int (q1 % (65536 : Int32))), .val (.int (q2 &&& (3 : Int32))), .unset, .unset, .unset, .unset, .unset, .unset, .unset, .unset, .unset, .unset, .unset, .unset, .unset, .unset, .unset, .unset, .unset] [(.int (1073741824 : Int32)), (.int q3)]))
  refine own_by (fun t k => iremM X0 hx rfl (hb hby at_14) rfl (by decide) k) ?_
  show own_Go p.tables e below K (s₁.setTop (mkF m 15 #[.val (.int q1), .val (.int q2), .val (.int q3), .val (.int q4), .val (.int (q1 % (65536 : Int32))), .val (.int (q2 &&& (3 : Int32))), .unset, .unset, .unset, .unset, .unset, .unset, .unset, .unset, .unset, .unset, .unset, .unset, .unset, .unset, .unset, .unset, .unset] [(.int (q3 % (1073741824 : Int32)))]))
  refine own_by (fun t k => XS.istore X0.here hx rfl (hb hby at_15) rfl (l' := #[.val (.int q1), .val (.int q2), .val (.int q3), .val (.int q4), .val (.int (q1 % (65536 : Int32))), .val (.int (q2 &&& (3 : Int32))), .val (.int (q3 % (1073741824 : Int32))), .unset, .unset, .unset, .unset, .unset, .unset, .unset, .unset, .unset, .unset, .unset, .unset, .unset, .unset, .unset, .unset]) rfl k) ?_
  show own_Go p.tables e below K (s₁.setTop (mkF m 17 #[.val (.int q1), .val (.int q2), .val (.int q3), .val (.int q4), .val (.int (q1 % (65536 : Int32))), .val (.int (q2 &&& (3 : Int32))), .val (.int (q3 % (1073741824 : Int32))), .unset, .unset, .unset, .unset, .unset, .unset, .unset, .unset, .unset, .unset, .unset, .unset, .unset, .unset, .unset, .unset] []))
  refine own_by (fun t k => XS.iloadN X0.here hx rfl (hb hby at_17) rfl k) ?_
  show own_Go p.tables e below K (s₁.setTop (mkF m 18 #[.val (.int q1), .val (.int q2), .val (.int q3), .val (.int q4), .val (.int (q1 % (65536 : Int32))), .val (.int (q2 &&& (3 : Int32))), .val (.int (q3 % (1073741824 : Int32))), .unset, .unset, .unset, .unset, .unset, .unset, .unset, .unset, .unset, .unset, .unset, .unset, .unset, .unset, .unset, .unset] [(.int q4)]))
  refine own_by (fun t k => X0.ldcInt hx hown (mvT hZ (hw _ (List.mem_of_getElem? (i := 1) rfl))) (g := (mkF m 18 #[.val (.int q1), .val (.int q2), .val (.int q3), .val (.int q4), .val (.int (q1 % (65536 : Int32))), .val (.int (q2 &&& (3 : Int32))), .val (.int (q3 % (1073741824 : Int32))), .unset, .unset, .unset, .unset, .unset, .unset, .unset, .unset, .unset, .unset, .unset, .unset, .unset, .unset, .unset, .unset] [(.int q4)])) rfl (hb hby at_18) _ k) ?_
  show own_Go p.tables e below K (s₁.setTop (mkF m 20 #[.val (.int q1), .val (.int q2), .val (.int q3), .val (.int q4), .val (.int (q1 % (65536 : Int32))), .val (.int (q2 &&& (3 : Int32))), .val (.int (q3 % (1073741824 : Int32))), .unset, .unset, .unset, .unset, .unset, .unset, .unset, .unset, .unset, .unset, .unset, .unset, .unset, .unset, .unset, .unset] [(.int (1073741824 : Int32)), (.int q4)]))
  refine own_by (fun t k => iremM X0 hx rfl (hb hby at_20) rfl (by decide) k) ?_
  show own_Go p.tables e below K (s₁.setTop (mkF m 21 #[.val (.int q1), .val (.int q2), .val (.int q3), .val (.int q4), .val (.int (q1 % (65536 : Int32))), .val (.int (q2 &&& (3 : Int32))), .val (.int (q3 % (1073741824 : Int32))), .unset, .unset, .unset, .unset, .unset, .unset, .unset, .unset, .unset, .unset, .unset, .unset, .unset, .unset, .unset, .unset] [(.int (q4 % (1073741824 : Int32)))]))
  refine own_by (fun t k => XS.istore X0.here hx rfl (hb hby at_21) rfl (l' := #[.val (.int q1), .val (.int q2), .val (.int q3), .val (.int q4), .val (.int (q1 % (65536 : Int32))), .val (.int (q2 &&& (3 : Int32))), .val (.int (q3 % (1073741824 : Int32))), .val (.int (q4 % (1073741824 : Int32))), .unset, .unset, .unset, .unset, .unset, .unset, .unset, .unset, .unset, .unset, .unset, .unset, .unset, .unset, .unset]) rfl k) ?_
  have J23 : ∀ ci u t1 t2 : Int32, (-65535 ≤ ci.toInt ∧ ci.toInt ≤ 65535) → (u = 0 ∨ u = 1 ∨ u = 2 ∨ u = 3) → (-1073741823 ≤ t1.toInt ∧ t1.toInt ≤ 1073741823) → (-1073741823 ≤ t2.toInt ∧ t2.toInt ≤ 1073741823) → own_Go p.tables e below K (s₁.setTop (mkF m 23 #[.val (.int q1), .val (.int q2), .val (.int q3), .val (.int q4), .val (.int ci), .val (.int u), .val (.int t1), .val (.int t2), .unset, .unset, .unset, .unset, .unset, .unset, .unset, .unset, .unset, .unset, .unset, .unset, .unset, .unset, .unset] [])) := by
    intro ci u t1 t2 hci hu ht1 ht2
    have hci' : -65535 ≤ ci.toInt64.toInt ∧ ci.toInt64.toInt ≤ 65535 := by rw [Int32.toInt_toInt64]; exact hci
    have hB1 : -2147483646 ≤ t1.toInt64.toInt ∧ t1.toInt64.toInt ≤ 2147483646 := by rw [Int32.toInt_toInt64]; omega
    have hB2 : -2147483646 ≤ (t1.toInt64 + t2.toInt64).toInt ∧ (t1.toInt64 + t2.toInt64).toInt ≤ 2147483646 := (own_ad (by rw [Int32.toInt_toInt64]; exact ht1.1) (by rw [Int32.toInt_toInt64]; exact ht1.2) (by rw [Int32.toInt_toInt64]; exact ht2.1) (by rw [Int32.toInt_toInt64]; exact ht2.2)).2
    have J86 : ∀ (T' : State) (L' : List Loc) (u : Int32) (bw al el : Addr) (mc : Int32), Stand p l e room_1 Z m #[(.int q1), (.int q2), (.int q3), (.int q4)] below meth c T' L' 5 36 → Fr n0 L' → n0 ≤ T'.heap.size → Old Z n0 T'.heap → (u = 0 ∨ u = 1 ∨ u = 2 ∨ u = 3) → n0 ≤ al → own_AL Z T'.heap al el u mc → own_Vs Z T'.heap el bw u → own_Go p.tables e below K (T'.setTop (mkF m 86 #[.val (.int q1), .val (.int q2), .val (.int q3), .val (.int q4), .val (.int ci), .val (.int u), .val (.int t1), .val (.int t2), .val (.ref bw), .val (.ref al), .unset, .unset, .unset, .unset, .unset, .unset, .unset, .unset, .unset, .unset, .unset, .unset, .unset] [])) := by
      clear hu u
      intro T' L' u bw al el mc X' N' Z' O' hu ga' B' A'
      show own_Go p.tables e below K (T'.setTop (mkF m 86 #[.val (.int q1), .val (.int q2), .val (.int q3), .val (.int q4), .val (.int ci), .val (.int u), .val (.int t1), .val (.int t2), .val (.ref bw), .val (.ref al), .unset, .unset, .unset, .unset, .unset, .unset, .unset, .unset, .unset, .unset, .unset, .unset, .unset] []))
      obtain ⟨T188, h188, X188, e188, E188, A188, D188, -, st188⟩ := newO X' hx hZ hown (hw _ (List.mem_of_getElem? (i := 77) rfl)) (hw _ (List.mem_of_getElem? (i := 78) rfl)) (hw _ (List.mem_of_getElem? (i := 79) rfl)) rfl (g := (mkF m 86 #[.val (.int q1), .val (.int q2), .val (.int q3), .val (.int q4), .val (.int ci), .val (.int u), .val (.int t1), .val (.int t2), .val (.ref bw), .val (.ref al), .unset, .unset, .unset, .unset, .unset, .unset, .unset, .unset, .unset, .unset, .unset, .unset, .unset] [])) rfl (hb hby at_86) (by decide) (by decide)
      obtain ⟨b188, g188⟩ : ∃ z, z = T'.heap.size := ⟨_, rfl⟩
      rw [← g188] at A188 D188 st188
      refine own_by st188 ?_
      have gn_b188 : n0 ≤ b188 := Nat.le_trans Z' (Nat.le_of_eq g188.symm)
      have ne_el_b188 : el ≠ b188 := Nat.ne_of_lt (Nat.lt_of_lt_of_le A'.lt (Nat.le_of_eq g188.symm))
      have ne_al_b188 : al ≠ b188 := Nat.ne_of_lt (Nat.lt_of_lt_of_le B'.1.lt (Nat.le_of_eq g188.symm))
      have F188_modCount_al := B'.2.1.ext E188
      have F188_elementData_al := B'.2.2.1.ext E188
      have F188_size_al := B'.2.2.2.ext E188
      have Ex188_al := B'.1.ext E188
      have xa188_el := A'.ext E188
      have Z188 := Nat.le_trans Z' E188.1
      have O188 := O'.ext E188
      have F188_id_b188 : Fld Z h188 b188 "com/example/skyroster/skyroster/Satellite" "id" "Ljava/lang/String;" .null := D188 (Or.inr (hw _ (List.mem_of_getElem? (i := 185) rfl))) (ty := (.object "java/lang/String")) (by decide)
      have F188_name_b188 : Fld Z h188 b188 "com/example/skyroster/skyroster/Satellite" "name" "Ljava/lang/String;" .null := D188 (Or.inr (hw _ (List.mem_of_getElem? (i := 187) rfl))) (ty := (.object "java/lang/String")) (by decide)
      have F188_payloads_b188 : Fld Z h188 b188 "com/example/skyroster/skyroster/Satellite" "payloads" "Ljava/util/List;" .null := D188 (Or.inr (hw _ (List.mem_of_getElem? (i := 189) rfl))) (ty := (.object "java/util/List")) (by decide)
      have F188_costCoefficient_b188 : Fld Z h188 b188 "com/example/skyroster/skyroster/Satellite" "costCoefficient" "D" (.double (0 : UInt64)) := D188 (Or.inr (hw _ (List.mem_of_getElem? (i := 191) rfl))) (ty := .double) (by decide)
      have F188_minGapS_b188 : Fld Z h188 b188 "com/example/skyroster/skyroster/Satellite" "minGapS" "J" (.long (0 : Int64)) := D188 (Or.inr (hw _ (List.mem_of_getElem? (i := 193) rfl))) (ty := .long) (by decide)
      have F188_maxOrbitS_b188 : Fld Z h188 b188 "com/example/skyroster/skyroster/Satellite" "maxOrbitS" "J" (.long (0 : Int64)) := D188 (Or.inr (hw _ (List.mem_of_getElem? (i := 195) rfl))) (ty := .long) (by decide)
      have F188_maxDayS_b188 : Fld Z h188 b188 "com/example/skyroster/skyroster/Satellite" "maxDayS" "J" (.long (0 : Int64)) := D188 (Or.inr (hw _ (List.mem_of_getElem? (i := 197) rfl))) (ty := .long) (by decide)
      have F188_usedWindows_b188 : Fld Z h188 b188 "com/example/skyroster/skyroster/Satellite" "usedWindows" "Ljava/util/List;" .null := D188 (Or.inr (hw _ (List.mem_of_getElem? (i := 199) rfl))) (ty := (.object "java/util/List")) (by decide)
      show own_Go p.tables e below K (T188.setTop (mkF m 89 #[.val (.int q1), .val (.int q2), .val (.int q3), .val (.int q4), .val (.int ci), .val (.int u), .val (.int t1), .val (.int t2), .val (.ref bw), .val (.ref al), .unset, .unset, .unset, .unset, .unset, .unset, .unset, .unset, .unset, .unset, .unset, .unset, .unset] [(.ref b188)]))
      refine own_by (fun t k => XS.dup X188.here hx rfl (hb hby at_89) rfl rfl k) ?_
      show own_Go p.tables e below K (T188.setTop (mkF m 90 #[.val (.int q1), .val (.int q2), .val (.int q3), .val (.int q4), .val (.int ci), .val (.int u), .val (.int t1), .val (.int t2), .val (.ref bw), .val (.ref al), .unset, .unset, .unset, .unset, .unset, .unset, .unset, .unset, .unset, .unset, .unset, .unset, .unset] [(.ref b188), (.ref b188)]))
      obtain ⟨sa189, T189, h189, k189, X189, e189, E189, hS189, hk189, hZ, hown, st189⟩ := ldcS (s := Z) (vm0 := Z.vm) X188 hx hZ hown (hw _ (List.mem_of_getElem? (i := 80) rfl)) (fun d hd => hw d ((by decide +kernel : ∀ d ∈ Bundle.stringAtoms, d ∈ tables_1) d hd)) e188 (k0 := 0) ((State.WarmedH.refl Z).since 0) (Nat.zero_le _) (g := (mkF m 90 #[.val (.int q1), .val (.int q2), .val (.int q3), .val (.int q4), .val (.int ci), .val (.int u), .val (.int t1), .val (.int t2), .val (.ref bw), .val (.ref al), .unset, .unset, .unset, .unset, .unset, .unset, .unset, .unset, .unset, .unset, .unset, .unset, .unset] [(.ref b188), (.ref b188)])) rfl (hb hby at_90) (n := 4) (by decide +kernel) (by decide) (by decide) (by decide)
      refine own_by st189 ?_
      have F189_modCount_al := F188_modCount_al.ext E189
      have F189_elementData_al := F188_elementData_al.ext E189
      have F189_size_al := F188_size_al.ext E189
      have F189_id_b188 := F188_id_b188.ext E189
      have F189_name_b188 := F188_name_b188.ext E189
      have F189_payloads_b188 := F188_payloads_b188.ext E189
      have F189_costCoefficient_b188 := F188_costCoefficient_b188.ext E189
      have F189_minGapS_b188 := F188_minGapS_b188.ext E189
      have F189_maxOrbitS_b188 := F188_maxOrbitS_b188.ext E189
      have F189_maxDayS_b188 := F188_maxDayS_b188.ext E189
      have F189_usedWindows_b188 := F188_usedWindows_b188.ext E189
      have Ex189_al := Ex188_al.ext E189
      have Ex189_b188 := A188.ext E189
      have xa189_el := xa188_el.ext E189
      have Z189 := Nat.le_trans Z188 E189.1
      have O189 := O188.ext E189
      show own_Go p.tables e below K (T189.setTop (mkF m 92 #[.val (.int q1), .val (.int q2), .val (.int q3), .val (.int q4), .val (.int ci), .val (.int u), .val (.int t1), .val (.int t2), .val (.ref bw), .val (.ref al), .unset, .unset, .unset, .unset, .unset, .unset, .unset, .unset, .unset, .unset, .unset, .unset, .unset] [(.ref sa189), (.ref b188), (.ref b188)]))
      obtain ⟨sa190, T190, h190, k190, X190, e190, E190, hS190, hk190, hZ, hown, st190⟩ := ldcS (s := Z) (vm0 := T189.vm) X189 hx hZ hown (hw _ (List.mem_of_getElem? (i := 80) rfl)) (fun d hd => hw d ((by decide +kernel : ∀ d ∈ Bundle.stringAtoms, d ∈ tables_1) d hd)) e189 (k0 := k189) hS189 hk189 (g := (mkF m 92 #[.val (.int q1), .val (.int q2), .val (.int q3), .val (.int q4), .val (.int ci), .val (.int u), .val (.int t1), .val (.int t2), .val (.ref bw), .val (.ref al), .unset, .unset, .unset, .unset, .unset, .unset, .unset, .unset, .unset, .unset, .unset, .unset, .unset] [(.ref sa189), (.ref b188), (.ref b188)])) rfl (hb hby at_92) (n := 4) (by decide +kernel) (by decide) (by decide) (by decide)
      refine own_by st190 ?_
      have F190_modCount_al := F189_modCount_al.ext E190
      have F190_elementData_al := F189_elementData_al.ext E190
      have F190_size_al := F189_size_al.ext E190
      have F190_id_b188 := F189_id_b188.ext E190
      have F190_name_b188 := F189_name_b188.ext E190
      have F190_payloads_b188 := F189_payloads_b188.ext E190
      have F190_costCoefficient_b188 := F189_costCoefficient_b188.ext E190
      have F190_minGapS_b188 := F189_minGapS_b188.ext E190
      have F190_maxOrbitS_b188 := F189_maxOrbitS_b188.ext E190
      have F190_maxDayS_b188 := F189_maxDayS_b188.ext E190
      have F190_usedWindows_b188 := F189_usedWindows_b188.ext E190
      have Ex190_al := Ex189_al.ext E190
      have Ex190_b188 := Ex189_b188.ext E190
      have xa190_el := xa189_el.ext E190
      have Z190 := Nat.le_trans Z189 E190.1
      have O190 := O189.ext E190
      obtain ⟨h0, hh0⟩ : ∃ z, z = h190 := ⟨_, rfl⟩
      have K190 : Keep h0 h190 [b188] := by rw [hh0]; exact Keep.refl _ _
      show own_Go p.tables e below K (T190.setTop (mkF m 94 #[.val (.int q1), .val (.int q2), .val (.int q3), .val (.int q4), .val (.int ci), .val (.int u), .val (.int t1), .val (.int t2), .val (.ref bw), .val (.ref al), .unset, .unset, .unset, .unset, .unset, .unset, .unset, .unset, .unset, .unset, .unset, .unset, .unset] [(.ref sa190), (.ref sa189), (.ref b188), (.ref b188)]))
      obtain ⟨T191, h191, X191, e191, E191, A191, D191, -, st191⟩ := newO X190 hx hZ hown (hw _ (List.mem_of_getElem? (i := 22) rfl)) (hw _ (List.mem_of_getElem? (i := 23) rfl)) (hw _ (List.mem_of_getElem? (i := 24) rfl)) e190 (g := (mkF m 94 #[.val (.int q1), .val (.int q2), .val (.int q3), .val (.int q4), .val (.int ci), .val (.int u), .val (.int t1), .val (.int t2), .val (.ref bw), .val (.ref al), .unset, .unset, .unset, .unset, .unset, .unset, .unset, .unset, .unset, .unset, .unset, .unset, .unset] [(.ref sa190), (.ref sa189), (.ref b188), (.ref b188)])) rfl (hb hby at_94) (by decide) (by decide)
      obtain ⟨b191, g191⟩ : ∃ z, z = h190.size := ⟨_, rfl⟩
      rw [← g191] at A191 D191 st191
      refine own_by st191 ?_
      have gn_b191 : n0 ≤ b191 := Nat.le_trans Z190 (Nat.le_of_eq g191.symm)
      have ne_el_b191 : el ≠ b191 := Nat.ne_of_lt (Nat.lt_of_lt_of_le xa190_el.lt (Nat.le_of_eq g191.symm))
      have sz_b191 : h0.size ≤ b191 := Nat.le_trans K190.1 (Nat.le_of_eq g191.symm)
      have ne_al_b191 : al ≠ b191 := Nat.ne_of_lt (Nat.lt_of_lt_of_le Ex190_al.lt (Nat.le_of_eq g191.symm))
      have ne_b188_b191 : b188 ≠ b191 := Nat.ne_of_lt (Nat.lt_of_lt_of_le Ex190_b188.lt (Nat.le_of_eq g191.symm))
      have F191_modCount_al := F190_modCount_al.ext E191
      have F191_elementData_al := F190_elementData_al.ext E191
      have F191_size_al := F190_size_al.ext E191
      have F191_id_b188 := F190_id_b188.ext E191
      have F191_name_b188 := F190_name_b188.ext E191
      have F191_payloads_b188 := F190_payloads_b188.ext E191
      have F191_costCoefficient_b188 := F190_costCoefficient_b188.ext E191
      have F191_minGapS_b188 := F190_minGapS_b188.ext E191
      have F191_maxOrbitS_b188 := F190_maxOrbitS_b188.ext E191
      have F191_maxDayS_b188 := F190_maxDayS_b188.ext E191
      have F191_usedWindows_b188 := F190_usedWindows_b188.ext E191
      have Ex191_al := Ex190_al.ext E191
      have Ex191_b188 := Ex190_b188.ext E191
      have xa191_el := xa190_el.ext E191
      have K191 := K190.ext E191
      have Z191 := Nat.le_trans Z190 E191.1
      have O191 := O190.ext E191
      have F191_modCount_b191 : Fld Z h191 b191 "java/util/AbstractList" "modCount" "I" (.int (0 : Int32)) := D191 (Or.inl (hw _ (List.mem_of_getElem? (i := 42) rfl))) (ty := .int) (by decide)
      have F191_elementData_b191 : Fld Z h191 b191 "java/util/ArrayList" "elementData" "[Ljava/lang/Object;" .null := D191 (Or.inl (hw _ (List.mem_of_getElem? (i := 45) rfl))) (ty := (.array (.object "java/lang/Object"))) (by decide)
      have F191_size_b191 : Fld Z h191 b191 "java/util/ArrayList" "size" "I" (.int (0 : Int32)) := D191 (Or.inl (hw _ (List.mem_of_getElem? (i := 54) rfl))) (ty := .int) (by decide)
      show own_Go p.tables e below K (T191.setTop (mkF m 97 #[.val (.int q1), .val (.int q2), .val (.int q3), .val (.int q4), .val (.int ci), .val (.int u), .val (.int t1), .val (.int t2), .val (.ref bw), .val (.ref al), .unset, .unset, .unset, .unset, .unset, .unset, .unset, .unset, .unset, .unset, .unset, .unset, .unset] [(.ref b191), (.ref sa190), (.ref sa189), (.ref b188), (.ref b188)]))
      refine own_by (fun t k => XS.dup X191.here hx rfl (hb hby at_97) rfl rfl k) ?_
      show own_Go p.tables e below K (T191.setTop (mkF m 98 #[.val (.int q1), .val (.int q2), .val (.int q3), .val (.int q4), .val (.int ci), .val (.int u), .val (.int t1), .val (.int t2), .val (.ref bw), .val (.ref al), .unset, .unset, .unset, .unset, .unset, .unset, .unset, .unset, .unset, .unset, .unset, .unset, .unset] [(.ref b191), (.ref b191), (.ref sa190), (.ref sa189), (.ref b188), (.ref b188)]))
      obtain ⟨_, _, ⟨T192, L192, k192, n192⟩, -, X192, ⟨Lc192, hQ192, l192, y192, z192⟩, st192⟩ := X191.specialBack hx (y := (⟨"java/util/ArrayList", "<init>", "()V"⟩ : MethodName)) rfl hown (mvT hZ (hw _ (List.mem_of_getElem? (i := 25) rfl))) (mvT hZ (hw _ (List.mem_of_getElem? (i := 26) rfl))) (mvT hZ (hw _ (List.mem_of_getElem? (i := 27) rfl))) (by decide) (backOf (W := 5) (own_rmaln l Z aw hw [] b191 dd lz ez em mr h191 n0 Z191 A191 gn_b191 F191_modCount_b191 F191_elementData_b191 F191_size_b191 O191 S0) hZ (hw _ (List.mem_of_getElem? (i := 27) rfl)) (hw _ (List.mem_of_getElem? (i := 24) rfl)) (by decide) (by decide)) (g := (mkF m 98 #[.val (.int q1), .val (.int q2), .val (.int q3), .val (.int q4), .val (.int ci), .val (.int u), .val (.int t1), .val (.int t2), .val (.ref bw), .val (.ref al), .unset, .unset, .unset, .unset, .unset, .unset, .unset, .unset, .unset, .unset, .unset, .unset, .unset] [(.ref b191), (.ref b191), (.ref sa190), (.ref sa189), (.ref b188), (.ref b188)])) rfl (by rw [hml]; rfl) (Steps.refl _) (a := b191) (argsL := []) (rest := [(.ref b191), (.ref sa190), (.ref sa189), (.ref b188), (.ref b188)]) (lenOf own_pd0 rfl) rfl (by show 2 * 0 + _ ≤ _; exact Nat.le_of_eq rfl) (hb hby at_98) (fun _ _ => ⟨rfl, e191, (by decide : 11 + 0 ≤ _), (by decide : 63 + 0 ≤ _)⟩)
      dsimp only [Pt.U, Pt.locs, Pt.cells, Pt.slots] at X192 l192 y192 z192 st192 hQ192
      subst l192 y192 z192
      obtain ⟨rfl, N192q, Kp192, Bp192⟩ := hQ192
      have N192 := Fr.app N' N192q
      refine own_by (fun t k => st192.trans k) ?_
      have xa192_el := xa191_el.keep Kp192 (ninS ne_el_b191 nin0)
      have F192_modCount_al := F191_modCount_al.keep Kp192 (ninS ne_al_b191 nin0)
      have F192_elementData_al := F191_elementData_al.keep Kp192 (ninS ne_al_b191 nin0)
      have F192_size_al := F191_size_al.keep Kp192 (ninS ne_al_b191 nin0)
      have F192_id_b188 := F191_id_b188.keep Kp192 (ninS ne_b188_b191 nin0)
      have F192_name_b188 := F191_name_b188.keep Kp192 (ninS ne_b188_b191 nin0)
      have F192_payloads_b188 := F191_payloads_b188.keep Kp192 (ninS ne_b188_b191 nin0)
      have F192_costCoefficient_b188 := F191_costCoefficient_b188.keep Kp192 (ninS ne_b188_b191 nin0)
      have F192_minGapS_b188 := F191_minGapS_b188.keep Kp192 (ninS ne_b188_b191 nin0)
      have F192_maxOrbitS_b188 := F191_maxOrbitS_b188.keep Kp192 (ninS ne_b188_b191 nin0)
      have F192_maxDayS_b188 := F191_maxDayS_b188.keep Kp192 (ninS ne_b188_b191 nin0)
      have F192_usedWindows_b188 := F191_usedWindows_b188.keep Kp192 (ninS ne_b188_b191 nin0)
      have Ex192_al := Ex191_al.keep Kp192
      have Ex192_b188 := Ex191_b188.keep Kp192
      have Ex192_b191 := A191.keep Kp192
      have K192 := K191.trans Kp192 (allS (Or.inr sz_b191) (all0))
      have Z192 := Nat.le_trans Z191 Kp192.1
      have O192 := O191.keep Kp192 (allS gn_b191 (all0))
      show own_Go p.tables e below K (T192.setTop (mkF m 101 #[.val (.int q1), .val (.int q2), .val (.int q3), .val (.int q4), .val (.int ci), .val (.int u), .val (.int t1), .val (.int t2), .val (.ref bw), .val (.ref al), .unset, .unset, .unset, .unset, .unset, .unset, .unset, .unset, .unset, .unset, .unset, .unset, .unset] [(.ref b191), (.ref sa190), (.ref sa189), (.ref b188), (.ref b188)]))
      refine own_by (fun t k => XS.iload X192.here hx rfl (hb hby at_101) rfl k) ?_
      show own_Go p.tables e below K (T192.setTop (mkF m 103 #[.val (.int q1), .val (.int q2), .val (.int q3), .val (.int q4), .val (.int ci), .val (.int u), .val (.int t1), .val (.int t2), .val (.ref bw), .val (.ref al), .unset, .unset, .unset, .unset, .unset, .unset, .unset, .unset, .unset, .unset, .unset, .unset, .unset] [(.int ci), (.ref b191), (.ref sa190), (.ref sa189), (.ref b188), (.ref b188)]))
      refine own_by (fun t k => XS.i2dS X192.here hx rfl (hb hby at_103) rfl (i2d_w _) k) ?_
      show own_Go p.tables e below K (T192.setTop (mkF m 104 #[.val (.int q1), .val (.int q2), .val (.int q3), .val (.int q4), .val (.int ci), .val (.int u), .val (.int t1), .val (.int t2), .val (.ref bw), .val (.ref al), .unset, .unset, .unset, .unset, .unset, .unset, .unset, .unset, .unset, .unset, .unset, .unset, .unset] [(.double (FP.l2d ci.toInt64)), (.ref b191), (.ref sa190), (.ref sa189), (.ref b188), (.ref b188)]))
      refine own_by (fun t k => XS.lconst X192.here hx rfl (hb hby at_104) k) ?_
      show own_Go p.tables e below K (T192.setTop (mkF m 105 #[.val (.int q1), .val (.int q2), .val (.int q3), .val (.int q4), .val (.int ci), .val (.int u), .val (.int t1), .val (.int t2), .val (.ref bw), .val (.ref al), .unset, .unset, .unset, .unset, .unset, .unset, .unset, .unset, .unset, .unset, .unset, .unset, .unset] [(.long (0 : Int64)), (.double (FP.l2d ci.toInt64)), (.ref b191), (.ref sa190), (.ref sa189), (.ref b188), (.ref b188)]))
      refine own_by (fun t k => XS.lconst X192.here hx rfl (hb hby at_105) k) ?_
      show own_Go p.tables e below K (T192.setTop (mkF m 106 #[.val (.int q1), .val (.int q2), .val (.int q3), .val (.int q4), .val (.int ci), .val (.int u), .val (.int t1), .val (.int t2), .val (.ref bw), .val (.ref al), .unset, .unset, .unset, .unset, .unset, .unset, .unset, .unset, .unset, .unset, .unset, .unset, .unset] [(.long (0 : Int64)), (.long (0 : Int64)), (.double (FP.l2d ci.toInt64)), (.ref b191), (.ref sa190), (.ref sa189), (.ref b188), (.ref b188)]))
      refine own_by (fun t k => XS.lconst X192.here hx rfl (hb hby at_106) k) ?_
      show own_Go p.tables e below K (T192.setTop (mkF m 107 #[.val (.int q1), .val (.int q2), .val (.int q3), .val (.int q4), .val (.int ci), .val (.int u), .val (.int t1), .val (.int t2), .val (.ref bw), .val (.ref al), .unset, .unset, .unset, .unset, .unset, .unset, .unset, .unset, .unset, .unset, .unset, .unset, .unset] [(.long (0 : Int64)), (.long (0 : Int64)), (.long (0 : Int64)), (.double (FP.l2d ci.toInt64)), (.ref b191), (.ref sa190), (.ref sa189), (.ref b188), (.ref b188)]))
      refine own_by (fun t k => XS.aload X192.here hx rfl (hb hby at_107) rfl rfl k) ?_
      show own_Go p.tables e below K (T192.setTop (mkF m 109 #[.val (.int q1), .val (.int q2), .val (.int q3), .val (.int q4), .val (.int ci), .val (.int u), .val (.int t1), .val (.int t2), .val (.ref bw), .val (.ref al), .unset, .unset, .unset, .unset, .unset, .unset, .unset, .unset, .unset, .unset, .unset, .unset, .unset] [(.ref al), (.long (0 : Int64)), (.long (0 : Int64)), (.long (0 : Int64)), (.double (FP.l2d ci.toInt64)), (.ref b191), (.ref sa190), (.ref sa189), (.ref b188), (.ref b188)]))
      obtain ⟨_, _, ⟨T193, L193, k193, n193⟩, -, X193, ⟨Lc193, hQ193, l193, y193, z193⟩, st193⟩ := X192.specialBack hx (y := (⟨"com/example/skyroster/skyroster/Satellite", "<init>", "(Ljava/lang/String;Ljava/lang/String;Ljava/util/List;DJJJLjava/util/List;)V"⟩ : MethodName)) rfl hown (mvT hZ (hw _ (List.mem_of_getElem? (i := 88) rfl))) (mvT hZ (hw _ (List.mem_of_getElem? (i := 89) rfl))) (mvT hZ (hw _ (List.mem_of_getElem? (i := 90) rfl))) (by decide) (backOf (W := 1) (own_rmsai l Z aw hw [] b188 sa189 sa190 b191 (FP.l2d ci.toInt64) 0 0 0 al 0 el u mc bw dd lz ez em mr T192.heap n0 Z192 Ex192_b188 gn_b188 F192_id_b188 F192_name_b188 F192_payloads_b188 F192_costCoefficient_b188 F192_minGapS_b188 F192_maxOrbitS_b188 F192_maxDayS_b188 F192_usedWindows_b188 ⟨Bp192.1, Bp192.2.1, Bp192.2.2.1, Bp192.2.2.2⟩ ⟨Ex192_al, F192_modCount_al, F192_elementData_al, F192_size_al⟩ xa192_el O192 S0) hZ (hw _ (List.mem_of_getElem? (i := 90) rfl)) (hw _ (List.mem_of_getElem? (i := 79) rfl)) (by decide) (by decide)) (g := (mkF m 109 #[.val (.int q1), .val (.int q2), .val (.int q3), .val (.int q4), .val (.int ci), .val (.int u), .val (.int t1), .val (.int t2), .val (.ref bw), .val (.ref al), .unset, .unset, .unset, .unset, .unset, .unset, .unset, .unset, .unset, .unset, .unset, .unset, .unset] [(.ref al), (.long (0 : Int64)), (.long (0 : Int64)), (.long (0 : Int64)), (.double (FP.l2d ci.toInt64)), (.ref b191), (.ref sa190), (.ref sa189), (.ref b188), (.ref b188)])) rfl (by rw [hml]; rfl) (Steps.refl _) (a := b188) (argsL := [(.ref sa189), (.ref sa190), (.ref b191), (.double (FP.l2d ci.toInt64)), (.long (0 : Int64)), (.long (0 : Int64)), (.long (0 : Int64)), (.ref al)]) (rest := [(.ref b188)]) (lenOf own_pd17 rfl) rfl (by show 2 * 0 + _ ≤ _; exact Nat.le_of_eq rfl) (hb hby at_109) (fun _ _ => ⟨rfl, rfl, (by decide : 11 + 6 ≤ _), (by decide : 63 + 16 ≤ _)⟩)
      dsimp only [Pt.U, Pt.locs, Pt.cells, Pt.slots] at X193 l193 y193 z193 st193 hQ193
      subst l193 y193 z193
      obtain ⟨rfl, N193q, Kp193, Xp193, Cp193, lw193, Up193, Sp193⟩ := hQ193
      have N193 := Fr.app N192 N193q
      refine own_by (fun t k => st193.trans k) ?_
      have xa193_el := xa192_el.keep Kp193 (ninS ne_el_b188 nin0)
      have F193_modCount_al := F192_modCount_al.keep Kp193 (ninS ne_al_b188 nin0)
      have F193_elementData_al := F192_elementData_al.keep Kp193 (ninS ne_al_b188 nin0)
      have F193_size_al := F192_size_al.keep Kp193 (ninS ne_al_b188 nin0)
      have F193_modCount_b191 := Bp192.2.1.keep Kp193 (ninS (Ne.symm ne_b188_b191) nin0)
      have F193_elementData_b191 := Bp192.2.2.1.keep Kp193 (ninS (Ne.symm ne_b188_b191) nin0)
      have F193_size_b191 := Bp192.2.2.2.keep Kp193 (ninS (Ne.symm ne_b188_b191) nin0)
      have Ex193_al := Ex192_al.keep Kp193
      have Ex193_b188 := Ex192_b188.keep Kp193
      have Ex193_b191 := Bp192.1.keep Kp193
      have K193 := K192.trans Kp193 (allS (Or.inl (by simp)) (all0))
      have Z193 := Nat.le_trans Z192 Kp193.1
      have O193 := O192.keep Kp193 (allS gn_b188 (all0))
      show own_Go p.tables e below K (T193.setTop (mkF m 112 #[.val (.int q1), .val (.int q2), .val (.int q3), .val (.int q4), .val (.int ci), .val (.int u), .val (.int t1), .val (.int t2), .val (.ref bw), .val (.ref al), .unset, .unset, .unset, .unset, .unset, .unset, .unset, .unset, .unset, .unset, .unset, .unset, .unset] [(.ref b188)]))
      refine own_by (fun t k => XS.astore X193.here hx rfl (hb hby at_112) rfl rfl (l' := #[.val (.int q1), .val (.int q2), .val (.int q3), .val (.int q4), .val (.int ci), .val (.int u), .val (.int t1), .val (.int t2), .val (.ref bw), .val (.ref al), .val (.ref b188), .unset, .unset, .unset, .unset, .unset, .unset, .unset, .unset, .unset, .unset, .unset, .unset]) rfl k) ?_
      show own_Go p.tables e below K (T193.setTop (mkF m 114 #[.val (.int q1), .val (.int q2), .val (.int q3), .val (.int q4), .val (.int ci), .val (.int u), .val (.int t1), .val (.int t2), .val (.ref bw), .val (.ref al), .val (.ref b188), .unset, .unset, .unset, .unset, .unset, .unset, .unset, .unset, .unset, .unset, .unset, .unset] []))
      obtain ⟨T194, h194, X194, e194, E194, A194, D194, -, st194⟩ := newO X193 hx hZ hown (hw _ (List.mem_of_getElem? (i := 200) rfl)) (hw _ (List.mem_of_getElem? (i := 201) rfl)) (hw _ (List.mem_of_getElem? (i := 202) rfl)) rfl (g := (mkF m 114 #[.val (.int q1), .val (.int q2), .val (.int q3), .val (.int q4), .val (.int ci), .val (.int u), .val (.int t1), .val (.int t2), .val (.ref bw), .val (.ref al), .val (.ref b188), .unset, .unset, .unset, .unset, .unset, .unset, .unset, .unset, .unset, .unset, .unset, .unset] [])) rfl (hb hby at_114) (by decide) (by decide)
      obtain ⟨b194, g194⟩ : ∃ z, z = T193.heap.size := ⟨_, rfl⟩
      rw [← g194] at A194 D194 st194
      refine own_by st194 ?_
      have gn_b194 : n0 ≤ b194 := Nat.le_trans Z193 (Nat.le_of_eq g194.symm)
      have ne_el_b194 : el ≠ b194 := Nat.ne_of_lt (Nat.lt_of_lt_of_le xa193_el.lt (Nat.le_of_eq g194.symm))
      have ne_lw193_b194 : lw193 ≠ b194 := Nat.ne_of_lt (Nat.lt_of_lt_of_le Sp193.lt (Nat.le_of_eq g194.symm))
      have sz_b194 : h0.size ≤ b194 := Nat.le_trans K193.1 (Nat.le_of_eq g194.symm)
      have ne_al_b194 : al ≠ b194 := Nat.ne_of_lt (Nat.lt_of_lt_of_le Ex193_al.lt (Nat.le_of_eq g194.symm))
      have ne_b188_b194 : b188 ≠ b194 := Nat.ne_of_lt (Nat.lt_of_lt_of_le Xp193.lt (Nat.le_of_eq g194.symm))
      have ne_b191_b194 : b191 ≠ b194 := Nat.ne_of_lt (Nat.lt_of_lt_of_le Ex193_b191.lt (Nat.le_of_eq g194.symm))
      have F194_modCount_al := F193_modCount_al.ext E194
      have F194_elementData_al := F193_elementData_al.ext E194
      have F194_size_al := F193_size_al.ext E194
      have F194_modCount_b191 := F193_modCount_b191.ext E194
      have F194_elementData_b191 := F193_elementData_b191.ext E194
      have F194_size_b191 := F193_size_b191.ext E194
      have F194_costCoefficient_b188 := Cp193.ext E194
      have F194_usedWindows_b188 := Up193.ext E194
      have Ex194_al := Ex193_al.ext E194
      have Ex194_b188 := Xp193.ext E194
      have Ex194_b191 := Ex193_b191.ext E194
      have xa194_el := xa193_el.ext E194
      have xa194_lw193 := Sp193.ext E194
      have K194 := K193.ext E194
      have Z194 := Nat.le_trans Z193 E194.1
      have O194 := O193.ext E194
      have F194_coefficient_b194 : Fld Z h194 b194 "com/example/skyroster/skyroster/CostShare" "coefficient" "D" (.double (0 : UInt64)) := D194 (Or.inr (hw _ (List.mem_of_getElem? (i := 213) rfl))) (ty := .double) (by decide)
      have F194_usedCount_b194 : Fld Z h194 b194 "com/example/skyroster/skyroster/CostShare" "usedCount" "I" (.int (0 : Int32)) := D194 (Or.inr (hw _ (List.mem_of_getElem? (i := 229) rfl))) (ty := .int) (by decide)
      have F194_taskCount_b194 : Fld Z h194 b194 "com/example/skyroster/skyroster/CostShare" "taskCount" "I" (.int (0 : Int32)) := D194 (Or.inl (hw _ (List.mem_of_getElem? (i := 231) rfl))) (ty := .int) (by decide)
      have F194_taskCostSum_b194 : Fld Z h194 b194 "com/example/skyroster/skyroster/CostShare" "taskCostSum" "D" (.double (0 : UInt64)) := D194 (Or.inl (hw _ (List.mem_of_getElem? (i := 241) rfl))) (ty := .double) (by decide)
      have F194_cost_b194 : Fld Z h194 b194 "com/example/skyroster/skyroster/CostShare" "cost" "D" (.double (0 : UInt64)) := D194 (Or.inl (hw _ (List.mem_of_getElem? (i := 248) rfl))) (ty := .double) (by decide)
      show own_Go p.tables e below K (T194.setTop (mkF m 117 #[.val (.int q1), .val (.int q2), .val (.int q3), .val (.int q4), .val (.int ci), .val (.int u), .val (.int t1), .val (.int t2), .val (.ref bw), .val (.ref al), .val (.ref b188), .unset, .unset, .unset, .unset, .unset, .unset, .unset, .unset, .unset, .unset, .unset, .unset] [(.ref b194)]))
      refine own_by (fun t k => XS.dup X194.here hx rfl (hb hby at_117) rfl rfl k) ?_
      show own_Go p.tables e below K (T194.setTop (mkF m 118 #[.val (.int q1), .val (.int q2), .val (.int q3), .val (.int q4), .val (.int ci), .val (.int u), .val (.int t1), .val (.int t2), .val (.ref bw), .val (.ref al), .val (.ref b188), .unset, .unset, .unset, .unset, .unset, .unset, .unset, .unset, .unset, .unset, .unset, .unset] [(.ref b194), (.ref b194)]))
      refine own_by (fun t k => XS.aload X194.here hx rfl (hb hby at_118) rfl rfl k) ?_
      show own_Go p.tables e below K (T194.setTop (mkF m 120 #[.val (.int q1), .val (.int q2), .val (.int q3), .val (.int q4), .val (.int ci), .val (.int u), .val (.int t1), .val (.int t2), .val (.ref bw), .val (.ref al), .val (.ref b188), .unset, .unset, .unset, .unset, .unset, .unset, .unset, .unset, .unset, .unset, .unset, .unset] [(.ref b188), (.ref b194), (.ref b194)]))
      obtain ⟨_, _, ⟨T195, L195, k195, n195⟩, -, X195, ⟨Lc195, hQ195, l195, y195, z195⟩, st195⟩ := X194.specialBack hx (y := (⟨"com/example/skyroster/skyroster/CostShare", "<init>", "(Lcom/example/skyroster/skyroster/Satellite;)V"⟩ : MethodName)) rfl hown (mvT hZ (hw _ (List.mem_of_getElem? (i := 203) rfl))) (mvT hZ (hw _ (List.mem_of_getElem? (i := 204) rfl))) (mvT hZ (hw _ (List.mem_of_getElem? (i := 205) rfl))) (by decide) (backOf (W := 1) (own_rmcsi l Z aw hw [] b194 b188 (FP.l2d ci.toInt64) lw193 u dd lz ez em mr h194 n0 Z194 A194 gn_b194 F194_coefficient_b194 F194_usedCount_b194 F194_taskCount_b194 F194_taskCostSum_b194 F194_cost_b194 Ex194_b188 F194_costCoefficient_b188 F194_usedWindows_b188 xa194_lw193 O194 S0) hZ (hw _ (List.mem_of_getElem? (i := 205) rfl)) (hw _ (List.mem_of_getElem? (i := 202) rfl)) (by decide) (by decide)) (g := (mkF m 120 #[.val (.int q1), .val (.int q2), .val (.int q3), .val (.int q4), .val (.int ci), .val (.int u), .val (.int t1), .val (.int t2), .val (.ref bw), .val (.ref al), .val (.ref b188), .unset, .unset, .unset, .unset, .unset, .unset, .unset, .unset, .unset, .unset, .unset, .unset] [(.ref b188), (.ref b194), (.ref b194)])) rfl (by rw [hml]; rfl) (Steps.refl _) (a := b194) (argsL := [(.ref b188)]) (rest := [(.ref b194)]) (lenOf own_pd18 rfl) rfl (by show 2 * 0 + _ ≤ _; exact Nat.le_of_eq rfl) (hb hby at_120) (fun _ _ => ⟨rfl, e194, (by decide : 18 + 0 ≤ _), (by decide : 84 + 0 ≤ _)⟩)
      dsimp only [Pt.U, Pt.locs, Pt.cells, Pt.slots] at X195 l195 y195 z195 st195 hQ195
      subst l195 y195 z195
      obtain ⟨rfl, N195q, Kp195, Bp195⟩ := hQ195
      have N195 := Fr.app N193 N195q
      refine own_by (fun t k => st195.trans k) ?_
      have xa195_el := xa194_el.keep Kp195 (ninS ne_el_b194 nin0)
      have xa195_lw193 := xa194_lw193.keep Kp195 (ninS ne_lw193_b194 nin0)
      have F195_modCount_al := F194_modCount_al.keep Kp195 (ninS ne_al_b194 nin0)
      have F195_elementData_al := F194_elementData_al.keep Kp195 (ninS ne_al_b194 nin0)
      have F195_size_al := F194_size_al.keep Kp195 (ninS ne_al_b194 nin0)
      have F195_modCount_b191 := F194_modCount_b191.keep Kp195 (ninS ne_b191_b194 nin0)
      have F195_elementData_b191 := F194_elementData_b191.keep Kp195 (ninS ne_b191_b194 nin0)
      have F195_size_b191 := F194_size_b191.keep Kp195 (ninS ne_b191_b194 nin0)
      have F195_costCoefficient_b188 := F194_costCoefficient_b188.keep Kp195 (ninS ne_b188_b194 nin0)
      have F195_usedWindows_b188 := F194_usedWindows_b188.keep Kp195 (ninS ne_b188_b194 nin0)
      have Ex195_al := Ex194_al.keep Kp195
      have Ex195_b188 := Ex194_b188.keep Kp195
      have Ex195_b191 := Ex194_b191.keep Kp195
      have Ex195_b194 := A194.keep Kp195
      have K195 := K194.trans Kp195 (allS (Or.inr sz_b194) (all0))
      have Z195 := Nat.le_trans Z194 Kp195.1
      have O195 := O194.keep Kp195 (allS gn_b194 (all0))
      show own_Go p.tables e below K (T195.setTop (mkF m 123 #[.val (.int q1), .val (.int q2), .val (.int q3), .val (.int q4), .val (.int ci), .val (.int u), .val (.int t1), .val (.int t2), .val (.ref bw), .val (.ref al), .val (.ref b188), .unset, .unset, .unset, .unset, .unset, .unset, .unset, .unset, .unset, .unset, .unset, .unset] [(.ref b194)]))
      refine own_by (fun t k => XS.astore X195.here hx rfl (hb hby at_123) rfl rfl (l' := #[.val (.int q1), .val (.int q2), .val (.int q3), .val (.int q4), .val (.int ci), .val (.int u), .val (.int t1), .val (.int t2), .val (.ref bw), .val (.ref al), .val (.ref b188), .val (.ref b194), .unset, .unset, .unset, .unset, .unset, .unset, .unset, .unset, .unset, .unset, .unset]) rfl k) ?_
      show own_Go p.tables e below K (T195.setTop (mkF m 125 #[.val (.int q1), .val (.int q2), .val (.int q3), .val (.int q4), .val (.int ci), .val (.int u), .val (.int t1), .val (.int t2), .val (.ref bw), .val (.ref al), .val (.ref b188), .val (.ref b194), .unset, .unset, .unset, .unset, .unset, .unset, .unset, .unset, .unset, .unset, .unset] []))
      refine own_by (fun t k => XS.aload X195.here hx rfl (hb hby at_125) rfl rfl k) ?_
      show own_Go p.tables e below K (T195.setTop (mkF m 127 #[.val (.int q1), .val (.int q2), .val (.int q3), .val (.int q4), .val (.int ci), .val (.int u), .val (.int t1), .val (.int t2), .val (.ref bw), .val (.ref al), .val (.ref b188), .val (.ref b194), .unset, .unset, .unset, .unset, .unset, .unset, .unset, .unset, .unset, .unset, .unset] [(.ref b194)]))
      obtain ⟨T196, X196, e196, st196⟩ := getF X195 hx hZ hown (host := "") (Or.inl (hw _ (List.mem_of_getElem? (i := 230) rfl))) Via.refl rfl Bp195.2.2.2.1 (g := (mkF m 127 #[.val (.int q1), .val (.int q2), .val (.int q3), .val (.int q4), .val (.int ci), .val (.int u), .val (.int t1), .val (.int t2), .val (.ref bw), .val (.ref al), .val (.ref b188), .val (.ref b194), .unset, .unset, .unset, .unset, .unset, .unset, .unset, .unset, .unset, .unset, .unset] [(.ref b194)])) rfl rfl (hb hby at_127)
      refine own_by st196 ?_
      show own_Go p.tables e below K (T196.setTop (mkF m 130 #[.val (.int q1), .val (.int q2), .val (.int q3), .val (.int q4), .val (.int ci), .val (.int u), .val (.int t1), .val (.int t2), .val (.ref bw), .val (.ref al), .val (.ref b188), .val (.ref b194), .unset, .unset, .unset, .unset, .unset, .unset, .unset, .unset, .unset, .unset, .unset] [(.int (0 : Int32))]))
      have hc130 : (0 : Int32) = (0 : Int32) := by decide
      refine own_by (fun t k => XS.ifNo X196.here hx rfl (hb hby at_130) rfl ((if0 _ _).trans (teq hc130).2) k) ?_
      show own_Go p.tables e below K (T196.setTop (mkF m 133 #[.val (.int q1), .val (.int q2), .val (.int q3), .val (.int q4), .val (.int ci), .val (.int u), .val (.int t1), .val (.int t2), .val (.ref bw), .val (.ref al), .val (.ref b188), .val (.ref b194), .unset, .unset, .unset, .unset, .unset, .unset, .unset, .unset, .unset, .unset, .unset] []))
      refine own_by (fun t k => XS.aload X196.here hx rfl (hb hby at_133) rfl rfl k) ?_
      show own_Go p.tables e below K (T196.setTop (mkF m 135 #[.val (.int q1), .val (.int q2), .val (.int q3), .val (.int q4), .val (.int ci), .val (.int u), .val (.int t1), .val (.int t2), .val (.ref bw), .val (.ref al), .val (.ref b188), .val (.ref b194), .unset, .unset, .unset, .unset, .unset, .unset, .unset, .unset, .unset, .unset, .unset] [(.ref b194)]))
      obtain ⟨T197, X197, e197, st197⟩ := getF X196 hx hZ hown (host := "") (Or.inl (hw _ (List.mem_of_getElem? (i := 232) rfl))) Via.refl e196 Bp195.2.2.1 (g := (mkF m 135 #[.val (.int q1), .val (.int q2), .val (.int q3), .val (.int q4), .val (.int ci), .val (.int u), .val (.int t1), .val (.int t2), .val (.ref bw), .val (.ref al), .val (.ref b188), .val (.ref b194), .unset, .unset, .unset, .unset, .unset, .unset, .unset, .unset, .unset, .unset, .unset] [(.ref b194)])) rfl rfl (hb hby at_135)
      refine own_by st197 ?_
      show own_Go p.tables e below K (T197.setTop (mkF m 138 #[.val (.int q1), .val (.int q2), .val (.int q3), .val (.int q4), .val (.int ci), .val (.int u), .val (.int t1), .val (.int t2), .val (.ref bw), .val (.ref al), .val (.ref b188), .val (.ref b194), .unset, .unset, .unset, .unset, .unset, .unset, .unset, .unset, .unset, .unset, .unset] [(.int u)]))
      refine own_by (fun t k => XS.iload X197.here hx rfl (hb hby at_138) rfl k) ?_
      show own_Go p.tables e below K (T197.setTop (mkF m 140 #[.val (.int q1), .val (.int q2), .val (.int q3), .val (.int q4), .val (.int ci), .val (.int u), .val (.int t1), .val (.int t2), .val (.ref bw), .val (.ref al), .val (.ref b188), .val (.ref b194), .unset, .unset, .unset, .unset, .unset, .unset, .unset, .unset, .unset, .unset, .unset] [(.int u), (.int u)]))
      have hc140 : u = u := rfl
      refine own_by (fun t k => XS.icmpNo X197.here hx rfl (hb hby at_140) rfl (teq hc140).2 k) ?_
      show own_Go p.tables e below K (T197.setTop (mkF m 143 #[.val (.int q1), .val (.int q2), .val (.int q3), .val (.int q4), .val (.int ci), .val (.int u), .val (.int t1), .val (.int t2), .val (.ref bw), .val (.ref al), .val (.ref b188), .val (.ref b194), .unset, .unset, .unset, .unset, .unset, .unset, .unset, .unset, .unset, .unset, .unset] []))
      refine own_by (fun t k => XS.aload X197.here hx rfl (hb hby at_143) rfl rfl k) ?_
      show own_Go p.tables e below K (T197.setTop (mkF m 145 #[.val (.int q1), .val (.int q2), .val (.int q3), .val (.int q4), .val (.int ci), .val (.int u), .val (.int t1), .val (.int t2), .val (.ref bw), .val (.ref al), .val (.ref b188), .val (.ref b194), .unset, .unset, .unset, .unset, .unset, .unset, .unset, .unset, .unset, .unset, .unset] [(.ref b194)]))
      obtain ⟨T198, X198, e198, st198⟩ := getF X197 hx hZ hown (host := "") (Or.inl (hw _ (List.mem_of_getElem? (i := 233) rfl))) Via.refl e197 Bp195.2.1 (g := (mkF m 145 #[.val (.int q1), .val (.int q2), .val (.int q3), .val (.int q4), .val (.int ci), .val (.int u), .val (.int t1), .val (.int t2), .val (.ref bw), .val (.ref al), .val (.ref b188), .val (.ref b194), .unset, .unset, .unset, .unset, .unset, .unset, .unset, .unset, .unset, .unset, .unset] [(.ref b194)])) rfl rfl (hb hby at_145)
      refine own_by st198 ?_
      show own_Go p.tables e below K (T198.setTop (mkF m 148 #[.val (.int q1), .val (.int q2), .val (.int q3), .val (.int q4), .val (.int ci), .val (.int u), .val (.int t1), .val (.int t2), .val (.ref bw), .val (.ref al), .val (.ref b188), .val (.ref b194), .unset, .unset, .unset, .unset, .unset, .unset, .unset, .unset, .unset, .unset, .unset] [(.double (FP.l2d ci.toInt64))]))
      refine own_by (fun t k => XS.iload X198.here hx rfl (hb hby at_148) rfl k) ?_
      show own_Go p.tables e below K (T198.setTop (mkF m 150 #[.val (.int q1), .val (.int q2), .val (.int q3), .val (.int q4), .val (.int ci), .val (.int u), .val (.int t1), .val (.int t2), .val (.ref bw), .val (.ref al), .val (.ref b188), .val (.ref b194), .unset, .unset, .unset, .unset, .unset, .unset, .unset, .unset, .unset, .unset, .unset] [(.int ci), (.double (FP.l2d ci.toInt64))]))
      refine own_by (fun t k => XS.i2dS X198.here hx rfl (hb hby at_150) rfl (i2d_w _) k) ?_
      show own_Go p.tables e below K (T198.setTop (mkF m 151 #[.val (.int q1), .val (.int q2), .val (.int q3), .val (.int q4), .val (.int ci), .val (.int u), .val (.int t1), .val (.int t2), .val (.ref bw), .val (.ref al), .val (.ref b188), .val (.ref b194), .unset, .unset, .unset, .unset, .unset, .unset, .unset, .unset, .unset, .unset, .unset] [(.double (FP.l2d ci.toInt64)), (.double (FP.l2d ci.toInt64))]))
      refine own_by (fun t k => XS.dcmpS (v := (0 : Int32)) X198.here hx rfl (hb hby at_151) rfl (dcmpV_self (nn_w rfl) _) k) ?_
      show own_Go p.tables e below K (T198.setTop (mkF m 152 #[.val (.int q1), .val (.int q2), .val (.int q3), .val (.int q4), .val (.int ci), .val (.int u), .val (.int t1), .val (.int t2), .val (.ref bw), .val (.ref al), .val (.ref b188), .val (.ref b194), .unset, .unset, .unset, .unset, .unset, .unset, .unset, .unset, .unset, .unset, .unset] [(.int (0 : Int32))]))
      have hc152 : (0 : Int32) = (0 : Int32) := by decide
      refine own_by (fun t k => XS.ifNo X198.here hx rfl (hb hby at_152) rfl ((if0 _ _).trans (teq hc152).2) k) ?_
      show own_Go p.tables e below K (T198.setTop (mkF m 155 #[.val (.int q1), .val (.int q2), .val (.int q3), .val (.int q4), .val (.int ci), .val (.int u), .val (.int t1), .val (.int t2), .val (.ref bw), .val (.ref al), .val (.ref b188), .val (.ref b194), .unset, .unset, .unset, .unset, .unset, .unset, .unset, .unset, .unset, .unset, .unset] []))
      refine own_by (fun t k => XS.iconst X198.here hx rfl (hb hby at_155) k) ?_
      show own_Go p.tables e below K (T198.setTop (mkF m 156 #[.val (.int q1), .val (.int q2), .val (.int q3), .val (.int q4), .val (.int ci), .val (.int u), .val (.int t1), .val (.int t2), .val (.ref bw), .val (.ref al), .val (.ref b188), .val (.ref b194), .unset, .unset, .unset, .unset, .unset, .unset, .unset, .unset, .unset, .unset, .unset] [(.int (1 : Int32))]))
      refine own_by (fun t k => XS.goto X198.here hx rfl (pc0 := 156) (pc' := 160) rfl (hb hby at_156) (by decide) (by decide) k) ?_
      show own_Go p.tables e below K (T198.setTop (mkF m 160 #[.val (.int q1), .val (.int q2), .val (.int q3), .val (.int q4), .val (.int ci), .val (.int u), .val (.int t1), .val (.int t2), .val (.ref bw), .val (.ref al), .val (.ref b188), .val (.ref b194), .unset, .unset, .unset, .unset, .unset, .unset, .unset, .unset, .unset, .unset, .unset] [(.int (1 : Int32))]))
      refine own_by (fun t k => XS.istore X198.here hx rfl (hb hby at_160) rfl (l' := #[.val (.int q1), .val (.int q2), .val (.int q3), .val (.int q4), .val (.int ci), .val (.int u), .val (.int t1), .val (.int t2), .val (.ref bw), .val (.ref al), .val (.ref b188), .val (.ref b194), .val (.int (1 : Int32)), .unset, .unset, .unset, .unset, .unset, .unset, .unset, .unset, .unset, .unset]) rfl k) ?_
      show own_Go p.tables e below K (T198.setTop (mkF m 162 #[.val (.int q1), .val (.int q2), .val (.int q3), .val (.int q4), .val (.int ci), .val (.int u), .val (.int t1), .val (.int t2), .val (.ref bw), .val (.ref al), .val (.ref b188), .val (.ref b194), .val (.int (1 : Int32)), .unset, .unset, .unset, .unset, .unset, .unset, .unset, .unset, .unset, .unset] []))
      refine own_by (fun t k => XS.aload X198.here hx rfl (hb hby at_162) rfl rfl k) ?_
      show own_Go p.tables e below K (T198.setTop (mkF m 164 #[.val (.int q1), .val (.int q2), .val (.int q3), .val (.int q4), .val (.int ci), .val (.int u), .val (.int t1), .val (.int t2), .val (.ref bw), .val (.ref al), .val (.ref b188), .val (.ref b194), .val (.int (1 : Int32)), .unset, .unset, .unset, .unset, .unset, .unset, .unset, .unset, .unset, .unset] [(.ref b194)]))
      refine own_by (fun t k => XS.iload X198.here hx rfl (hb hby at_164) rfl k) ?_
      show own_Go p.tables e below K (T198.setTop (mkF m 166 #[.val (.int q1), .val (.int q2), .val (.int q3), .val (.int q4), .val (.int ci), .val (.int u), .val (.int t1), .val (.int t2), .val (.ref bw), .val (.ref al), .val (.ref b188), .val (.ref b194), .val (.int (1 : Int32)), .unset, .unset, .unset, .unset, .unset, .unset, .unset, .unset, .unset, .unset] [(.int t1), (.ref b194)]))
      refine own_by (fun t k => XS.i2dS X198.here hx rfl (hb hby at_166) rfl (i2d_w _) k) ?_
      show own_Go p.tables e below K (T198.setTop (mkF m 167 #[.val (.int q1), .val (.int q2), .val (.int q3), .val (.int q4), .val (.int ci), .val (.int u), .val (.int t1), .val (.int t2), .val (.ref bw), .val (.ref al), .val (.ref b188), .val (.ref b194), .val (.int (1 : Int32)), .unset, .unset, .unset, .unset, .unset, .unset, .unset, .unset, .unset, .unset] [(.double (FP.l2d t1.toInt64)), (.ref b194)]))
      obtain ⟨cq199, kq199, q199a, q199b, q199c⟩ := isOf hZ e198 Bp195.1
      obtain ⟨_, _, ⟨T199, L199, k199, n199⟩, -, X199, ⟨Lc199, hQ199, l199, y199, z199⟩, st199⟩ := X198.virtualBack hx (y := (⟨"com/example/skyroster/skyroster/CostShare", "give", "(D)V"⟩ : MethodName)) (z := (⟨"com/example/skyroster/skyroster/CostShare", "give", "(D)V"⟩ : MethodName)) hown (mvT hZ (hw _ (List.mem_of_getElem? (i := 234) rfl))) (mvT hZ (hw _ (List.mem_of_getElem? (i := 235) rfl))) (notFace_of_selects (args := #[]) (mvT hZ (hw _ (List.mem_of_getElem? (i := 237) rfl)))) (mvT hZ (hw _ (List.mem_of_getElem? (i := 237) rfl))) (mvT hZ (hw _ (List.mem_of_getElem? (i := 236) rfl))) (by decide) (backOf (W := 0) (own_rmgiv0 l Z aw hw [] b194 (FP.l2d t1.toInt64) ci u 0 t1.toInt64 _ T195.heap n0 Z195 ⟨Bp195.1, Bp195.2.1, Bp195.2.2.1, Bp195.2.2.2.1, Bp195.2.2.2.2.1, Bp195.2.2.2.2.2⟩ gn_b194 rfl hci hu ⟨by decide, by decide⟩ (by rw [Int32.toInt_toInt64]; exact ht1)) hZ (hw _ (List.mem_of_getElem? (i := 238) rfl)) (hw _ (List.mem_of_getElem? (i := 202) rfl)) (by decide) (by decide)) q199a q199c (g := (mkF m 167 #[.val (.int q1), .val (.int q2), .val (.int q3), .val (.int q4), .val (.int ci), .val (.int u), .val (.int t1), .val (.int t2), .val (.ref bw), .val (.ref al), .val (.ref b188), .val (.ref b194), .val (.int (1 : Int32)), .unset, .unset, .unset, .unset, .unset, .unset, .unset, .unset, .unset, .unset] [(.double (FP.l2d t1.toInt64)), (.ref b194)])) rfl (by rw [hml]; rfl) (Steps.refl _) (argsL := [(.double (FP.l2d t1.toInt64))]) (rest := []) (lenOf own_pd19 rfl) rfl (by show 2 * 0 + _ ≤ _; exact Nat.le_of_eq rfl) (hb hby at_167) (fun _ _ => ⟨rfl, e198, (by decide : 18 + 0 ≤ _), (by decide : 84 + 0 ≤ _)⟩)
      dsimp only [Pt.U, Pt.locs, Pt.cells, Pt.slots] at X199 l199 y199 z199 st199 hQ199
      subst l199 y199 z199
      obtain ⟨rfl, N199q, Kp199, Bp199⟩ := hQ199
      have N199 := Fr.app N195 N199q
      refine own_by (fun t k => st199.trans k) ?_
      have xa199_el := xa195_el.keep Kp199 (ninS ne_el_b194 nin0)
      have xa199_lw193 := xa195_lw193.keep Kp199 (ninS ne_lw193_b194 nin0)
      have F199_modCount_al := F195_modCount_al.keep Kp199 (ninS ne_al_b194 nin0)
      have F199_elementData_al := F195_elementData_al.keep Kp199 (ninS ne_al_b194 nin0)
      have F199_size_al := F195_size_al.keep Kp199 (ninS ne_al_b194 nin0)
      have F199_modCount_b191 := F195_modCount_b191.keep Kp199 (ninS ne_b191_b194 nin0)
      have F199_elementData_b191 := F195_elementData_b191.keep Kp199 (ninS ne_b191_b194 nin0)
      have F199_size_b191 := F195_size_b191.keep Kp199 (ninS ne_b191_b194 nin0)
      have F199_costCoefficient_b188 := F195_costCoefficient_b188.keep Kp199 (ninS ne_b188_b194 nin0)
      have F199_usedWindows_b188 := F195_usedWindows_b188.keep Kp199 (ninS ne_b188_b194 nin0)
      have Ex199_al := Ex195_al.keep Kp199
      have Ex199_b188 := Ex195_b188.keep Kp199
      have Ex199_b191 := Ex195_b191.keep Kp199
      have Ex199_b194 := Bp195.1.keep Kp199
      have K199 := K195.trans Kp199 (allS (Or.inr sz_b194) (all0))
      have Z199 := Nat.le_trans Z195 Kp199.1
      have O199 := O195.keep Kp199 (allS gn_b194 (all0))
      show own_Go p.tables e below K (T199.setTop (mkF m 170 #[.val (.int q1), .val (.int q2), .val (.int q3), .val (.int q4), .val (.int ci), .val (.int u), .val (.int t1), .val (.int t2), .val (.ref bw), .val (.ref al), .val (.ref b188), .val (.ref b194), .val (.int (1 : Int32)), .unset, .unset, .unset, .unset, .unset, .unset, .unset, .unset, .unset, .unset] []))
      refine own_by (fun t k => XS.iload X199.here hx rfl (hb hby at_170) rfl k) ?_
      show own_Go p.tables e below K (T199.setTop (mkF m 172 #[.val (.int q1), .val (.int q2), .val (.int q3), .val (.int q4), .val (.int ci), .val (.int u), .val (.int t1), .val (.int t2), .val (.ref bw), .val (.ref al), .val (.ref b188), .val (.ref b194), .val (.int (1 : Int32)), .unset, .unset, .unset, .unset, .unset, .unset, .unset, .unset, .unset, .unset] [(.int t1)]))
      refine own_by (fun t k => XS.i2l X199.here hx rfl (hb hby at_172) rfl k) ?_
      show own_Go p.tables e below K (T199.setTop (mkF m 173 #[.val (.int q1), .val (.int q2), .val (.int q3), .val (.int q4), .val (.int ci), .val (.int u), .val (.int t1), .val (.int t2), .val (.ref bw), .val (.ref al), .val (.ref b188), .val (.ref b194), .val (.int (1 : Int32)), .unset, .unset, .unset, .unset, .unset, .unset, .unset, .unset, .unset, .unset] [(.long (t1.toInt64))]))
      refine own_by (fun t k => XS.lstore X199.here hx rfl (hb hby at_173) rfl (l' := #[.val (.int q1), .val (.int q2), .val (.int q3), .val (.int q4), .val (.int ci), .val (.int u), .val (.int t1), .val (.int t2), .val (.ref bw), .val (.ref al), .val (.ref b188), .val (.ref b194), .val (.int (1 : Int32)), .val (.long (t1.toInt64)), .second, .unset, .unset, .unset, .unset, .unset, .unset, .unset, .unset]) rfl k) ?_
      show own_Go p.tables e below K (T199.setTop (mkF m 175 #[.val (.int q1), .val (.int q2), .val (.int q3), .val (.int q4), .val (.int ci), .val (.int u), .val (.int t1), .val (.int t2), .val (.ref bw), .val (.ref al), .val (.ref b188), .val (.ref b194), .val (.int (1 : Int32)), .val (.long (t1.toInt64)), .second, .unset, .unset, .unset, .unset, .unset, .unset, .unset, .unset] []))
      refine own_by (fun t k => XS.iload X199.here hx rfl (hb hby at_175) rfl k) ?_
      show own_Go p.tables e below K (T199.setTop (mkF m 177 #[.val (.int q1), .val (.int q2), .val (.int q3), .val (.int q4), .val (.int ci), .val (.int u), .val (.int t1), .val (.int t2), .val (.ref bw), .val (.ref al), .val (.ref b188), .val (.ref b194), .val (.int (1 : Int32)), .val (.long (t1.toInt64)), .second, .unset, .unset, .unset, .unset, .unset, .unset, .unset, .unset] [(.int ci)]))
      refine own_by (fun t k => XS.i2l X199.here hx rfl (hb hby at_177) rfl k) ?_
      show own_Go p.tables e below K (T199.setTop (mkF m 178 #[.val (.int q1), .val (.int q2), .val (.int q3), .val (.int q4), .val (.int ci), .val (.int u), .val (.int t1), .val (.int t2), .val (.ref bw), .val (.ref al), .val (.ref b188), .val (.ref b194), .val (.int (1 : Int32)), .val (.long (t1.toInt64)), .second, .unset, .unset, .unset, .unset, .unset, .unset, .unset, .unset] [(.long (ci.toInt64))]))
      refine own_by (fun t k => XS.iconst X199.here hx rfl (hb hby at_178) k) ?_
      show own_Go p.tables e below K (T199.setTop (mkF m 179 #[.val (.int q1), .val (.int q2), .val (.int q3), .val (.int q4), .val (.int ci), .val (.int u), .val (.int t1), .val (.int t2), .val (.ref bw), .val (.ref al), .val (.ref b188), .val (.ref b194), .val (.int (1 : Int32)), .val (.long (t1.toInt64)), .second, .unset, .unset, .unset, .unset, .unset, .unset, .unset, .unset] [(.int (1 : Int32)), (.long (ci.toInt64))]))
      refine own_by (fun t k => XS.iload X199.here hx rfl (hb hby at_179) rfl k) ?_
      show own_Go p.tables e below K (T199.setTop (mkF m 181 #[.val (.int q1), .val (.int q2), .val (.int q3), .val (.int q4), .val (.int ci), .val (.int u), .val (.int t1), .val (.int t2), .val (.ref bw), .val (.ref al), .val (.ref b188), .val (.ref b194), .val (.int (1 : Int32)), .val (.long (t1.toInt64)), .second, .unset, .unset, .unset, .unset, .unset, .unset, .unset, .unset] [(.int u), (.int (1 : Int32)), (.long (ci.toInt64))]))
      refine own_by (fun t k => XS.iadd X199.here hx rfl (hb hby at_181) rfl k) ?_
      show own_Go p.tables e below K (T199.setTop (mkF m 182 #[.val (.int q1), .val (.int q2), .val (.int q3), .val (.int q4), .val (.int ci), .val (.int u), .val (.int t1), .val (.int t2), .val (.ref bw), .val (.ref al), .val (.ref b188), .val (.ref b194), .val (.int (1 : Int32)), .val (.long (t1.toInt64)), .second, .unset, .unset, .unset, .unset, .unset, .unset, .unset, .unset] [(.int ((1 : Int32) + u)), (.long (ci.toInt64))]))
      refine own_by (fun t k => XS.i2l X199.here hx rfl (hb hby at_182) rfl k) ?_
      show own_Go p.tables e below K (T199.setTop (mkF m 183 #[.val (.int q1), .val (.int q2), .val (.int q3), .val (.int q4), .val (.int ci), .val (.int u), .val (.int t1), .val (.int t2), .val (.ref bw), .val (.ref al), .val (.ref b188), .val (.ref b194), .val (.int (1 : Int32)), .val (.long (t1.toInt64)), .second, .unset, .unset, .unset, .unset, .unset, .unset, .unset, .unset] [(.long (((1 : Int32) + u).toInt64)), (.long (ci.toInt64))]))
      refine own_by (fun t k => XS.lmul X199.here hx rfl (hb hby at_183) rfl k) ?_
      show own_Go p.tables e below K (T199.setTop (mkF m 184 #[.val (.int q1), .val (.int q2), .val (.int q3), .val (.int q4), .val (.int ci), .val (.int u), .val (.int t1), .val (.int t2), .val (.ref bw), .val (.ref al), .val (.ref b188), .val (.ref b194), .val (.int (1 : Int32)), .val (.long (t1.toInt64)), .second, .unset, .unset, .unset, .unset, .unset, .unset, .unset, .unset] [(.long ((ci.toInt64) * (((1 : Int32) + u).toInt64)))]))
      refine own_by (fun t k => XS.lload X199.here hx rfl (hb hby at_184) rfl k) ?_
      show own_Go p.tables e below K (T199.setTop (mkF m 186 #[.val (.int q1), .val (.int q2), .val (.int q3), .val (.int q4), .val (.int ci), .val (.int u), .val (.int t1), .val (.int t2), .val (.ref bw), .val (.ref al), .val (.ref b188), .val (.ref b194), .val (.int (1 : Int32)), .val (.long (t1.toInt64)), .second, .unset, .unset, .unset, .unset, .unset, .unset, .unset, .unset] [(.long (t1.toInt64)), (.long ((ci.toInt64) * (((1 : Int32) + u).toInt64)))]))
      refine own_by (fun t k => XS.lmul X199.here hx rfl (hb hby at_186) rfl k) ?_
      show own_Go p.tables e below K (T199.setTop (mkF m 187 #[.val (.int q1), .val (.int q2), .val (.int q3), .val (.int q4), .val (.int ci), .val (.int u), .val (.int t1), .val (.int t2), .val (.ref bw), .val (.ref al), .val (.ref b188), .val (.ref b194), .val (.int (1 : Int32)), .val (.long (t1.toInt64)), .second, .unset, .unset, .unset, .unset, .unset, .unset, .unset, .unset] [(.long (((ci.toInt64) * (((1 : Int32) + u).toInt64)) * (t1.toInt64)))]))
      refine own_by (fun t k => XS.lstore X199.here hx rfl (hb hby at_187) rfl (l' := #[.val (.int q1), .val (.int q2), .val (.int q3), .val (.int q4), .val (.int ci), .val (.int u), .val (.int t1), .val (.int t2), .val (.ref bw), .val (.ref al), .val (.ref b188), .val (.ref b194), .val (.int (1 : Int32)), .val (.long (t1.toInt64)), .second, .val (.long (((ci.toInt64) * (((1 : Int32) + u).toInt64)) * (t1.toInt64))), .second, .unset, .unset, .unset, .unset, .unset, .unset]) rfl k) ?_
      show own_Go p.tables e below K (T199.setTop (mkF m 189 #[.val (.int q1), .val (.int q2), .val (.int q3), .val (.int q4), .val (.int ci), .val (.int u), .val (.int t1), .val (.int t2), .val (.ref bw), .val (.ref al), .val (.ref b188), .val (.ref b194), .val (.int (1 : Int32)), .val (.long (t1.toInt64)), .second, .val (.long (((ci.toInt64) * (((1 : Int32) + u).toInt64)) * (t1.toInt64))), .second, .unset, .unset, .unset, .unset, .unset, .unset] []))
      refine own_by (fun t k => XS.aload X199.here hx rfl (hb hby at_189) rfl rfl k) ?_
      show own_Go p.tables e below K (T199.setTop (mkF m 191 #[.val (.int q1), .val (.int q2), .val (.int q3), .val (.int q4), .val (.int ci), .val (.int u), .val (.int t1), .val (.int t2), .val (.ref bw), .val (.ref al), .val (.ref b188), .val (.ref b194), .val (.int (1 : Int32)), .val (.long (t1.toInt64)), .second, .val (.long (((ci.toInt64) * (((1 : Int32) + u).toInt64)) * (t1.toInt64))), .second, .unset, .unset, .unset, .unset, .unset, .unset] [(.ref b194)]))
      obtain ⟨T200, X200, e200, st200⟩ := getF X199 hx hZ hown (host := "") (Or.inl (hw _ (List.mem_of_getElem? (i := 230) rfl))) Via.refl rfl Bp199.2.2.2.1 (g := (mkF m 191 #[.val (.int q1), .val (.int q2), .val (.int q3), .val (.int q4), .val (.int ci), .val (.int u), .val (.int t1), .val (.int t2), .val (.ref bw), .val (.ref al), .val (.ref b188), .val (.ref b194), .val (.int (1 : Int32)), .val (.long (t1.toInt64)), .second, .val (.long (((ci.toInt64) * (((1 : Int32) + u).toInt64)) * (t1.toInt64))), .second, .unset, .unset, .unset, .unset, .unset, .unset] [(.ref b194)])) rfl rfl (hb hby at_191)
      refine own_by st200 ?_
      show own_Go p.tables e below K (T200.setTop (mkF m 194 #[.val (.int q1), .val (.int q2), .val (.int q3), .val (.int q4), .val (.int ci), .val (.int u), .val (.int t1), .val (.int t2), .val (.ref bw), .val (.ref al), .val (.ref b188), .val (.ref b194), .val (.int (1 : Int32)), .val (.long (t1.toInt64)), .second, .val (.long (((ci.toInt64) * (((1 : Int32) + u).toInt64)) * (t1.toInt64))), .second, .unset, .unset, .unset, .unset, .unset, .unset] [(.int (1 : Int32))]))
      refine own_by (fun t k => XS.iconst X200.here hx rfl (hb hby at_194) k) ?_
      show own_Go p.tables e below K (T200.setTop (mkF m 195 #[.val (.int q1), .val (.int q2), .val (.int q3), .val (.int q4), .val (.int ci), .val (.int u), .val (.int t1), .val (.int t2), .val (.ref bw), .val (.ref al), .val (.ref b188), .val (.ref b194), .val (.int (1 : Int32)), .val (.long (t1.toInt64)), .second, .val (.long (((ci.toInt64) * (((1 : Int32) + u).toInt64)) * (t1.toInt64))), .second, .unset, .unset, .unset, .unset, .unset, .unset] [(.int (1 : Int32)), (.int (1 : Int32))]))
      have hc195 : (1 : Int32) = (1 : Int32) := by decide
      refine own_by (fun t k => XS.icmpNo X200.here hx rfl (hb hby at_195) rfl (teq hc195).2 k) ?_
      show own_Go p.tables e below K (T200.setTop (mkF m 198 #[.val (.int q1), .val (.int q2), .val (.int q3), .val (.int q4), .val (.int ci), .val (.int u), .val (.int t1), .val (.int t2), .val (.ref bw), .val (.ref al), .val (.ref b188), .val (.ref b194), .val (.int (1 : Int32)), .val (.long (t1.toInt64)), .second, .val (.long (((ci.toInt64) * (((1 : Int32) + u).toInt64)) * (t1.toInt64))), .second, .unset, .unset, .unset, .unset, .unset, .unset] []))
      refine own_by (fun t k => XS.aload X200.here hx rfl (hb hby at_198) rfl rfl k) ?_
      show own_Go p.tables e below K (T200.setTop (mkF m 200 #[.val (.int q1), .val (.int q2), .val (.int q3), .val (.int q4), .val (.int ci), .val (.int u), .val (.int t1), .val (.int t2), .val (.ref bw), .val (.ref al), .val (.ref b188), .val (.ref b194), .val (.int (1 : Int32)), .val (.long (t1.toInt64)), .second, .val (.long (((ci.toInt64) * (((1 : Int32) + u).toInt64)) * (t1.toInt64))), .second, .unset, .unset, .unset, .unset, .unset, .unset] [(.ref b194)]))
      obtain ⟨T201, X201, e201, st201⟩ := getF X200 hx hZ hown (host := "") (Or.inl (hw _ (List.mem_of_getElem? (i := 232) rfl))) Via.refl e200 Bp199.2.2.1 (g := (mkF m 200 #[.val (.int q1), .val (.int q2), .val (.int q3), .val (.int q4), .val (.int ci), .val (.int u), .val (.int t1), .val (.int t2), .val (.ref bw), .val (.ref al), .val (.ref b188), .val (.ref b194), .val (.int (1 : Int32)), .val (.long (t1.toInt64)), .second, .val (.long (((ci.toInt64) * (((1 : Int32) + u).toInt64)) * (t1.toInt64))), .second, .unset, .unset, .unset, .unset, .unset, .unset] [(.ref b194)])) rfl rfl (hb hby at_200)
      refine own_by st201 ?_
      show own_Go p.tables e below K (T201.setTop (mkF m 203 #[.val (.int q1), .val (.int q2), .val (.int q3), .val (.int q4), .val (.int ci), .val (.int u), .val (.int t1), .val (.int t2), .val (.ref bw), .val (.ref al), .val (.ref b188), .val (.ref b194), .val (.int (1 : Int32)), .val (.long (t1.toInt64)), .second, .val (.long (((ci.toInt64) * (((1 : Int32) + u).toInt64)) * (t1.toInt64))), .second, .unset, .unset, .unset, .unset, .unset, .unset] [(.int u)]))
      refine own_by (fun t k => XS.iload X201.here hx rfl (hb hby at_203) rfl k) ?_
      show own_Go p.tables e below K (T201.setTop (mkF m 205 #[.val (.int q1), .val (.int q2), .val (.int q3), .val (.int q4), .val (.int ci), .val (.int u), .val (.int t1), .val (.int t2), .val (.ref bw), .val (.ref al), .val (.ref b188), .val (.ref b194), .val (.int (1 : Int32)), .val (.long (t1.toInt64)), .second, .val (.long (((ci.toInt64) * (((1 : Int32) + u).toInt64)) * (t1.toInt64))), .second, .unset, .unset, .unset, .unset, .unset, .unset] [(.int u), (.int u)]))
      have hc205 : u = u := rfl
      refine own_by (fun t k => XS.icmpNo X201.here hx rfl (hb hby at_205) rfl (teq hc205).2 k) ?_
      show own_Go p.tables e below K (T201.setTop (mkF m 208 #[.val (.int q1), .val (.int q2), .val (.int q3), .val (.int q4), .val (.int ci), .val (.int u), .val (.int t1), .val (.int t2), .val (.ref bw), .val (.ref al), .val (.ref b188), .val (.ref b194), .val (.int (1 : Int32)), .val (.long (t1.toInt64)), .second, .val (.long (((ci.toInt64) * (((1 : Int32) + u).toInt64)) * (t1.toInt64))), .second, .unset, .unset, .unset, .unset, .unset, .unset] []))
      refine own_by (fun t k => XS.aload X201.here hx rfl (hb hby at_208) rfl rfl k) ?_
      show own_Go p.tables e below K (T201.setTop (mkF m 210 #[.val (.int q1), .val (.int q2), .val (.int q3), .val (.int q4), .val (.int ci), .val (.int u), .val (.int t1), .val (.int t2), .val (.ref bw), .val (.ref al), .val (.ref b188), .val (.ref b194), .val (.int (1 : Int32)), .val (.long (t1.toInt64)), .second, .val (.long (((ci.toInt64) * (((1 : Int32) + u).toInt64)) * (t1.toInt64))), .second, .unset, .unset, .unset, .unset, .unset, .unset] [(.ref b194)]))
      obtain ⟨T202, X202, e202, st202⟩ := getF X201 hx hZ hown (host := "") (Or.inl (hw _ (List.mem_of_getElem? (i := 233) rfl))) Via.refl e201 Bp199.2.1 (g := (mkF m 210 #[.val (.int q1), .val (.int q2), .val (.int q3), .val (.int q4), .val (.int ci), .val (.int u), .val (.int t1), .val (.int t2), .val (.ref bw), .val (.ref al), .val (.ref b188), .val (.ref b194), .val (.int (1 : Int32)), .val (.long (t1.toInt64)), .second, .val (.long (((ci.toInt64) * (((1 : Int32) + u).toInt64)) * (t1.toInt64))), .second, .unset, .unset, .unset, .unset, .unset, .unset] [(.ref b194)])) rfl rfl (hb hby at_210)
      refine own_by st202 ?_
      show own_Go p.tables e below K (T202.setTop (mkF m 213 #[.val (.int q1), .val (.int q2), .val (.int q3), .val (.int q4), .val (.int ci), .val (.int u), .val (.int t1), .val (.int t2), .val (.ref bw), .val (.ref al), .val (.ref b188), .val (.ref b194), .val (.int (1 : Int32)), .val (.long (t1.toInt64)), .second, .val (.long (((ci.toInt64) * (((1 : Int32) + u).toInt64)) * (t1.toInt64))), .second, .unset, .unset, .unset, .unset, .unset, .unset] [(.double (FP.l2d ci.toInt64))]))
      refine own_by (fun t k => XS.iload X202.here hx rfl (hb hby at_213) rfl k) ?_
      show own_Go p.tables e below K (T202.setTop (mkF m 215 #[.val (.int q1), .val (.int q2), .val (.int q3), .val (.int q4), .val (.int ci), .val (.int u), .val (.int t1), .val (.int t2), .val (.ref bw), .val (.ref al), .val (.ref b188), .val (.ref b194), .val (.int (1 : Int32)), .val (.long (t1.toInt64)), .second, .val (.long (((ci.toInt64) * (((1 : Int32) + u).toInt64)) * (t1.toInt64))), .second, .unset, .unset, .unset, .unset, .unset, .unset] [(.int ci), (.double (FP.l2d ci.toInt64))]))
      refine own_by (fun t k => XS.i2dS X202.here hx rfl (hb hby at_215) rfl (i2d_w _) k) ?_
      show own_Go p.tables e below K (T202.setTop (mkF m 216 #[.val (.int q1), .val (.int q2), .val (.int q3), .val (.int q4), .val (.int ci), .val (.int u), .val (.int t1), .val (.int t2), .val (.ref bw), .val (.ref al), .val (.ref b188), .val (.ref b194), .val (.int (1 : Int32)), .val (.long (t1.toInt64)), .second, .val (.long (((ci.toInt64) * (((1 : Int32) + u).toInt64)) * (t1.toInt64))), .second, .unset, .unset, .unset, .unset, .unset, .unset] [(.double (FP.l2d ci.toInt64)), (.double (FP.l2d ci.toInt64))]))
      refine own_by (fun t k => XS.dcmpS (v := (0 : Int32)) X202.here hx rfl (hb hby at_216) rfl (dcmpV_self (nn_w rfl) _) k) ?_
      show own_Go p.tables e below K (T202.setTop (mkF m 217 #[.val (.int q1), .val (.int q2), .val (.int q3), .val (.int q4), .val (.int ci), .val (.int u), .val (.int t1), .val (.int t2), .val (.ref bw), .val (.ref al), .val (.ref b188), .val (.ref b194), .val (.int (1 : Int32)), .val (.long (t1.toInt64)), .second, .val (.long (((ci.toInt64) * (((1 : Int32) + u).toInt64)) * (t1.toInt64))), .second, .unset, .unset, .unset, .unset, .unset, .unset] [(.int (0 : Int32))]))
      have hc217 : (0 : Int32) = (0 : Int32) := by decide
      refine own_by (fun t k => XS.ifNo X202.here hx rfl (hb hby at_217) rfl ((if0 _ _).trans (teq hc217).2) k) ?_
      show own_Go p.tables e below K (T202.setTop (mkF m 220 #[.val (.int q1), .val (.int q2), .val (.int q3), .val (.int q4), .val (.int ci), .val (.int u), .val (.int t1), .val (.int t2), .val (.ref bw), .val (.ref al), .val (.ref b188), .val (.ref b194), .val (.int (1 : Int32)), .val (.long (t1.toInt64)), .second, .val (.long (((ci.toInt64) * (((1 : Int32) + u).toInt64)) * (t1.toInt64))), .second, .unset, .unset, .unset, .unset, .unset, .unset] []))
      refine own_by (fun t k => XS.aload X202.here hx rfl (hb hby at_220) rfl rfl k) ?_
      show own_Go p.tables e below K (T202.setTop (mkF m 222 #[.val (.int q1), .val (.int q2), .val (.int q3), .val (.int q4), .val (.int ci), .val (.int u), .val (.int t1), .val (.int t2), .val (.ref bw), .val (.ref al), .val (.ref b188), .val (.ref b194), .val (.int (1 : Int32)), .val (.long (t1.toInt64)), .second, .val (.long (((ci.toInt64) * (((1 : Int32) + u).toInt64)) * (t1.toInt64))), .second, .unset, .unset, .unset, .unset, .unset, .unset] [(.ref b194)]))
      obtain ⟨T203, X203, e203, st203⟩ := getF X202 hx hZ hown (host := "") (Or.inl (hw _ (List.mem_of_getElem? (i := 249) rfl))) Via.refl e202 Bp199.2.2.2.2.1 (g := (mkF m 222 #[.val (.int q1), .val (.int q2), .val (.int q3), .val (.int q4), .val (.int ci), .val (.int u), .val (.int t1), .val (.int t2), .val (.ref bw), .val (.ref al), .val (.ref b188), .val (.ref b194), .val (.int (1 : Int32)), .val (.long (t1.toInt64)), .second, .val (.long (((ci.toInt64) * (((1 : Int32) + u).toInt64)) * (t1.toInt64))), .second, .unset, .unset, .unset, .unset, .unset, .unset] [(.ref b194)])) rfl rfl (hb hby at_222)
      refine own_by st203 ?_
      show own_Go p.tables e below K (T203.setTop (mkF m 225 #[.val (.int q1), .val (.int q2), .val (.int q3), .val (.int q4), .val (.int ci), .val (.int u), .val (.int t1), .val (.int t2), .val (.ref bw), .val (.ref al), .val (.ref b188), .val (.ref b194), .val (.int (1 : Int32)), .val (.long (t1.toInt64)), .second, .val (.long (((ci.toInt64) * (((1 : Int32) + u).toInt64)) * (t1.toInt64))), .second, .unset, .unset, .unset, .unset, .unset, .unset] [(.double (FP.l2d (0 + t1.toInt64)))]))
      refine own_by (fun t k => XS.lload X203.here hx rfl (hb hby at_225) rfl k) ?_
      show own_Go p.tables e below K (T203.setTop (mkF m 227 #[.val (.int q1), .val (.int q2), .val (.int q3), .val (.int q4), .val (.int ci), .val (.int u), .val (.int t1), .val (.int t2), .val (.ref bw), .val (.ref al), .val (.ref b188), .val (.ref b194), .val (.int (1 : Int32)), .val (.long (t1.toInt64)), .second, .val (.long (((ci.toInt64) * (((1 : Int32) + u).toInt64)) * (t1.toInt64))), .second, .unset, .unset, .unset, .unset, .unset, .unset] [(.long (t1.toInt64)), (.double (FP.l2d (0 + t1.toInt64)))]))
      refine own_by (fun t k => XS.l2dS X203.here hx rfl (hb hby at_227) rfl rfl k) ?_
      show own_Go p.tables e below K (T203.setTop (mkF m 228 #[.val (.int q1), .val (.int q2), .val (.int q3), .val (.int q4), .val (.int ci), .val (.int u), .val (.int t1), .val (.int t2), .val (.ref bw), .val (.ref al), .val (.ref b188), .val (.ref b194), .val (.int (1 : Int32)), .val (.long (t1.toInt64)), .second, .val (.long (((ci.toInt64) * (((1 : Int32) + u).toInt64)) * (t1.toInt64))), .second, .unset, .unset, .unset, .unset, .unset, .unset] [(.double (FP.l2d (t1.toInt64))), (.double (FP.l2d (0 + t1.toInt64)))]))
      refine own_by (fun t k => XS.dcmpS (v := (0 : Int32)) X203.here hx rfl (hb hby at_228) rfl (dcmpV_eq (by rw [Int64.zero_add]) (nn_w rfl) _) k) ?_
      show own_Go p.tables e below K (T203.setTop (mkF m 229 #[.val (.int q1), .val (.int q2), .val (.int q3), .val (.int q4), .val (.int ci), .val (.int u), .val (.int t1), .val (.int t2), .val (.ref bw), .val (.ref al), .val (.ref b188), .val (.ref b194), .val (.int (1 : Int32)), .val (.long (t1.toInt64)), .second, .val (.long (((ci.toInt64) * (((1 : Int32) + u).toInt64)) * (t1.toInt64))), .second, .unset, .unset, .unset, .unset, .unset, .unset] [(.int (0 : Int32))]))
      have hc229 : (0 : Int32) = (0 : Int32) := by decide
      refine own_by (fun t k => XS.ifNo X203.here hx rfl (hb hby at_229) rfl ((if0 _ _).trans (teq hc229).2) k) ?_
      show own_Go p.tables e below K (T203.setTop (mkF m 232 #[.val (.int q1), .val (.int q2), .val (.int q3), .val (.int q4), .val (.int ci), .val (.int u), .val (.int t1), .val (.int t2), .val (.ref bw), .val (.ref al), .val (.ref b188), .val (.ref b194), .val (.int (1 : Int32)), .val (.long (t1.toInt64)), .second, .val (.long (((ci.toInt64) * (((1 : Int32) + u).toInt64)) * (t1.toInt64))), .second, .unset, .unset, .unset, .unset, .unset, .unset] []))
      refine own_by (fun t k => XS.aload X203.here hx rfl (hb hby at_232) rfl rfl k) ?_
      show own_Go p.tables e below K (T203.setTop (mkF m 234 #[.val (.int q1), .val (.int q2), .val (.int q3), .val (.int q4), .val (.int ci), .val (.int u), .val (.int t1), .val (.int t2), .val (.ref bw), .val (.ref al), .val (.ref b188), .val (.ref b194), .val (.int (1 : Int32)), .val (.long (t1.toInt64)), .second, .val (.long (((ci.toInt64) * (((1 : Int32) + u).toInt64)) * (t1.toInt64))), .second, .unset, .unset, .unset, .unset, .unset, .unset] [(.ref b194)]))
      obtain ⟨T204, X204, e204, st204⟩ := getF X203 hx hZ hown (host := "") (Or.inl (hw _ (List.mem_of_getElem? (i := 250) rfl))) Via.refl e203 Bp199.2.2.2.2.2 (g := (mkF m 234 #[.val (.int q1), .val (.int q2), .val (.int q3), .val (.int q4), .val (.int ci), .val (.int u), .val (.int t1), .val (.int t2), .val (.ref bw), .val (.ref al), .val (.ref b188), .val (.ref b194), .val (.int (1 : Int32)), .val (.long (t1.toInt64)), .second, .val (.long (((ci.toInt64) * (((1 : Int32) + u).toInt64)) * (t1.toInt64))), .second, .unset, .unset, .unset, .unset, .unset, .unset] [(.ref b194)])) rfl rfl (hb hby at_234)
      refine own_by st204 ?_
      show own_Go p.tables e below K (T204.setTop (mkF m 237 #[.val (.int q1), .val (.int q2), .val (.int q3), .val (.int q4), .val (.int ci), .val (.int u), .val (.int t1), .val (.int t2), .val (.ref bw), .val (.ref al), .val (.ref b188), .val (.ref b194), .val (.int (1 : Int32)), .val (.long (t1.toInt64)), .second, .val (.long (((ci.toInt64) * (((1 : Int32) + u).toInt64)) * (t1.toInt64))), .second, .unset, .unset, .unset, .unset, .unset, .unset] [(.double (FP.dmul (FP.l2d (ci.toInt64 * ((1 : Int32) + u).toInt64)) (FP.l2d (0 + t1.toInt64))))]))
      refine own_by (fun t k => XS.lload X204.here hx rfl (hb hby at_237) rfl k) ?_
      show own_Go p.tables e below K (T204.setTop (mkF m 239 #[.val (.int q1), .val (.int q2), .val (.int q3), .val (.int q4), .val (.int ci), .val (.int u), .val (.int t1), .val (.int t2), .val (.ref bw), .val (.ref al), .val (.ref b188), .val (.ref b194), .val (.int (1 : Int32)), .val (.long (t1.toInt64)), .second, .val (.long (((ci.toInt64) * (((1 : Int32) + u).toInt64)) * (t1.toInt64))), .second, .unset, .unset, .unset, .unset, .unset, .unset] [(.long (((ci.toInt64) * (((1 : Int32) + u).toInt64)) * (t1.toInt64))), (.double (FP.dmul (FP.l2d (ci.toInt64 * ((1 : Int32) + u).toInt64)) (FP.l2d (0 + t1.toInt64))))]))
      refine own_by (fun t k => XS.l2dS X204.here hx rfl (hb hby at_239) rfl rfl k) ?_
      show own_Go p.tables e below K (T204.setTop (mkF m 240 #[.val (.int q1), .val (.int q2), .val (.int q3), .val (.int q4), .val (.int ci), .val (.int u), .val (.int t1), .val (.int t2), .val (.ref bw), .val (.ref al), .val (.ref b188), .val (.ref b194), .val (.int (1 : Int32)), .val (.long (t1.toInt64)), .second, .val (.long (((ci.toInt64) * (((1 : Int32) + u).toInt64)) * (t1.toInt64))), .second, .unset, .unset, .unset, .unset, .unset, .unset] [(.double (FP.l2d (((ci.toInt64) * (((1 : Int32) + u).toInt64)) * (t1.toInt64)))), (.double (FP.dmul (FP.l2d (ci.toInt64 * ((1 : Int32) + u).toInt64)) (FP.l2d (0 + t1.toInt64))))]))
      refine own_by (fun t k => XS.dcmpS (v := (0 : Int32)) X204.here hx rfl (hb hby at_240) rfl (by rw [Int64.zero_add]; exact (own_m2 (own_mt hci'.1 hci'.2 (own_wc1 hu).1 (own_wc1 hu).2).1 (own_mt hci'.1 hci'.2 (own_wc1 hu).1 (own_wc1 hu).2).2 hB1.1 hB1.2).2) k) ?_
      show own_Go p.tables e below K (T204.setTop (mkF m 241 #[.val (.int q1), .val (.int q2), .val (.int q3), .val (.int q4), .val (.int ci), .val (.int u), .val (.int t1), .val (.int t2), .val (.ref bw), .val (.ref al), .val (.ref b188), .val (.ref b194), .val (.int (1 : Int32)), .val (.long (t1.toInt64)), .second, .val (.long (((ci.toInt64) * (((1 : Int32) + u).toInt64)) * (t1.toInt64))), .second, .unset, .unset, .unset, .unset, .unset, .unset] [(.int (0 : Int32))]))
      have hc241 : (0 : Int32) = (0 : Int32) := by decide
      refine own_by (fun t k => XS.ifNo X204.here hx rfl (hb hby at_241) rfl ((if0 _ _).trans (teq hc241).2) k) ?_
      show own_Go p.tables e below K (T204.setTop (mkF m 244 #[.val (.int q1), .val (.int q2), .val (.int q3), .val (.int q4), .val (.int ci), .val (.int u), .val (.int t1), .val (.int t2), .val (.ref bw), .val (.ref al), .val (.ref b188), .val (.ref b194), .val (.int (1 : Int32)), .val (.long (t1.toInt64)), .second, .val (.long (((ci.toInt64) * (((1 : Int32) + u).toInt64)) * (t1.toInt64))), .second, .unset, .unset, .unset, .unset, .unset, .unset] []))
      refine own_by (fun t k => XS.iconst X204.here hx rfl (hb hby at_244) k) ?_
      show own_Go p.tables e below K (T204.setTop (mkF m 245 #[.val (.int q1), .val (.int q2), .val (.int q3), .val (.int q4), .val (.int ci), .val (.int u), .val (.int t1), .val (.int t2), .val (.ref bw), .val (.ref al), .val (.ref b188), .val (.ref b194), .val (.int (1 : Int32)), .val (.long (t1.toInt64)), .second, .val (.long (((ci.toInt64) * (((1 : Int32) + u).toInt64)) * (t1.toInt64))), .second, .unset, .unset, .unset, .unset, .unset, .unset] [(.int (1 : Int32))]))
      refine own_by (fun t k => XS.goto X204.here hx rfl (pc0 := 245) (pc' := 249) rfl (hb hby at_245) (by decide) (by decide) k) ?_
      show own_Go p.tables e below K (T204.setTop (mkF m 249 #[.val (.int q1), .val (.int q2), .val (.int q3), .val (.int q4), .val (.int ci), .val (.int u), .val (.int t1), .val (.int t2), .val (.ref bw), .val (.ref al), .val (.ref b188), .val (.ref b194), .val (.int (1 : Int32)), .val (.long (t1.toInt64)), .second, .val (.long (((ci.toInt64) * (((1 : Int32) + u).toInt64)) * (t1.toInt64))), .second, .unset, .unset, .unset, .unset, .unset, .unset] [(.int (1 : Int32))]))
      refine own_by (fun t k => XS.istore X204.here hx rfl (hb hby at_249) rfl (l' := #[.val (.int q1), .val (.int q2), .val (.int q3), .val (.int q4), .val (.int ci), .val (.int u), .val (.int t1), .val (.int t2), .val (.ref bw), .val (.ref al), .val (.ref b188), .val (.ref b194), .val (.int (1 : Int32)), .val (.long (t1.toInt64)), .second, .val (.long (((ci.toInt64) * (((1 : Int32) + u).toInt64)) * (t1.toInt64))), .second, .val (.int (1 : Int32)), .unset, .unset, .unset, .unset, .unset]) rfl k) ?_
      show own_Go p.tables e below K (T204.setTop (mkF m 251 #[.val (.int q1), .val (.int q2), .val (.int q3), .val (.int q4), .val (.int ci), .val (.int u), .val (.int t1), .val (.int t2), .val (.ref bw), .val (.ref al), .val (.ref b188), .val (.ref b194), .val (.int (1 : Int32)), .val (.long (t1.toInt64)), .second, .val (.long (((ci.toInt64) * (((1 : Int32) + u).toInt64)) * (t1.toInt64))), .second, .val (.int (1 : Int32)), .unset, .unset, .unset, .unset, .unset] []))
      refine own_by (fun t k => XS.aload X204.here hx rfl (hb hby at_251) rfl rfl k) ?_
      show own_Go p.tables e below K (T204.setTop (mkF m 253 #[.val (.int q1), .val (.int q2), .val (.int q3), .val (.int q4), .val (.int ci), .val (.int u), .val (.int t1), .val (.int t2), .val (.ref bw), .val (.ref al), .val (.ref b188), .val (.ref b194), .val (.int (1 : Int32)), .val (.long (t1.toInt64)), .second, .val (.long (((ci.toInt64) * (((1 : Int32) + u).toInt64)) * (t1.toInt64))), .second, .val (.int (1 : Int32)), .unset, .unset, .unset, .unset, .unset] [(.ref b194)]))
      refine own_by (fun t k => XS.iload X204.here hx rfl (hb hby at_253) rfl k) ?_
      show own_Go p.tables e below K (T204.setTop (mkF m 255 #[.val (.int q1), .val (.int q2), .val (.int q3), .val (.int q4), .val (.int ci), .val (.int u), .val (.int t1), .val (.int t2), .val (.ref bw), .val (.ref al), .val (.ref b188), .val (.ref b194), .val (.int (1 : Int32)), .val (.long (t1.toInt64)), .second, .val (.long (((ci.toInt64) * (((1 : Int32) + u).toInt64)) * (t1.toInt64))), .second, .val (.int (1 : Int32)), .unset, .unset, .unset, .unset, .unset] [(.int t2), (.ref b194)]))
      refine own_by (fun t k => XS.i2dS X204.here hx rfl (hb hby at_255) rfl (i2d_w _) k) ?_
      show own_Go p.tables e below K (T204.setTop (mkF m 256 #[.val (.int q1), .val (.int q2), .val (.int q3), .val (.int q4), .val (.int ci), .val (.int u), .val (.int t1), .val (.int t2), .val (.ref bw), .val (.ref al), .val (.ref b188), .val (.ref b194), .val (.int (1 : Int32)), .val (.long (t1.toInt64)), .second, .val (.long (((ci.toInt64) * (((1 : Int32) + u).toInt64)) * (t1.toInt64))), .second, .val (.int (1 : Int32)), .unset, .unset, .unset, .unset, .unset] [(.double (FP.l2d t2.toInt64)), (.ref b194)]))
      obtain ⟨cq205, kq205, q205a, q205b, q205c⟩ := isOf hZ e204 Bp199.1
      obtain ⟨_, _, ⟨T205, L205, k205, n205⟩, -, X205, ⟨Lc205, hQ205, l205, y205, z205⟩, st205⟩ := X204.virtualBack hx (y := (⟨"com/example/skyroster/skyroster/CostShare", "give", "(D)V"⟩ : MethodName)) (z := (⟨"com/example/skyroster/skyroster/CostShare", "give", "(D)V"⟩ : MethodName)) hown (mvT hZ (hw _ (List.mem_of_getElem? (i := 234) rfl))) (mvT hZ (hw _ (List.mem_of_getElem? (i := 235) rfl))) (notFace_of_selects (args := #[]) (mvT hZ (hw _ (List.mem_of_getElem? (i := 237) rfl)))) (mvT hZ (hw _ (List.mem_of_getElem? (i := 237) rfl))) (mvT hZ (hw _ (List.mem_of_getElem? (i := 236) rfl))) (by decide) (backOf (W := 0) (own_rmgiv1 l Z aw hw [] b194 (FP.l2d t2.toInt64) ci u (0 + t1.toInt64) t2.toInt64 _ T199.heap n0 Z199 ⟨Bp199.1, Bp199.2.1, Bp199.2.2.1, Bp199.2.2.2.1, Bp199.2.2.2.2.1, Bp199.2.2.2.2.2⟩ gn_b194 rfl hci hu (by rw [Int64.zero_add, Int32.toInt_toInt64]; exact ht1) (by rw [Int32.toInt_toInt64]; exact ht2)) hZ (hw _ (List.mem_of_getElem? (i := 238) rfl)) (hw _ (List.mem_of_getElem? (i := 202) rfl)) (by decide) (by decide)) q205a q205c (g := (mkF m 256 #[.val (.int q1), .val (.int q2), .val (.int q3), .val (.int q4), .val (.int ci), .val (.int u), .val (.int t1), .val (.int t2), .val (.ref bw), .val (.ref al), .val (.ref b188), .val (.ref b194), .val (.int (1 : Int32)), .val (.long (t1.toInt64)), .second, .val (.long (((ci.toInt64) * (((1 : Int32) + u).toInt64)) * (t1.toInt64))), .second, .val (.int (1 : Int32)), .unset, .unset, .unset, .unset, .unset] [(.double (FP.l2d t2.toInt64)), (.ref b194)])) rfl (by rw [hml]; rfl) (Steps.refl _) (argsL := [(.double (FP.l2d t2.toInt64))]) (rest := []) (lenOf own_pd19 rfl) rfl (by show 2 * 0 + _ ≤ _; exact Nat.le_of_eq rfl) (hb hby at_256) (fun _ _ => ⟨rfl, e204, (by decide : 18 + 0 ≤ _), (by decide : 84 + 0 ≤ _)⟩)
      dsimp only [Pt.U, Pt.locs, Pt.cells, Pt.slots] at X205 l205 y205 z205 st205 hQ205
      subst l205 y205 z205
      obtain ⟨rfl, N205q, Kp205, Bp205⟩ := hQ205
      have N205 := Fr.app N199 N205q
      refine own_by (fun t k => st205.trans k) ?_
      have xa205_el := xa199_el.keep Kp205 (ninS ne_el_b194 nin0)
      have xa205_lw193 := xa199_lw193.keep Kp205 (ninS ne_lw193_b194 nin0)
      have F205_modCount_al := F199_modCount_al.keep Kp205 (ninS ne_al_b194 nin0)
      have F205_elementData_al := F199_elementData_al.keep Kp205 (ninS ne_al_b194 nin0)
      have F205_size_al := F199_size_al.keep Kp205 (ninS ne_al_b194 nin0)
      have F205_modCount_b191 := F199_modCount_b191.keep Kp205 (ninS ne_b191_b194 nin0)
      have F205_elementData_b191 := F199_elementData_b191.keep Kp205 (ninS ne_b191_b194 nin0)
      have F205_size_b191 := F199_size_b191.keep Kp205 (ninS ne_b191_b194 nin0)
      have F205_costCoefficient_b188 := F199_costCoefficient_b188.keep Kp205 (ninS ne_b188_b194 nin0)
      have F205_usedWindows_b188 := F199_usedWindows_b188.keep Kp205 (ninS ne_b188_b194 nin0)
      have Ex205_al := Ex199_al.keep Kp205
      have Ex205_b188 := Ex199_b188.keep Kp205
      have Ex205_b191 := Ex199_b191.keep Kp205
      have Ex205_b194 := Bp199.1.keep Kp205
      have K205 := K199.trans Kp205 (allS (Or.inr sz_b194) (all0))
      have Z205 := Nat.le_trans Z199 Kp205.1
      have O205 := O199.keep Kp205 (allS gn_b194 (all0))
      show own_Go p.tables e below K (T205.setTop (mkF m 259 #[.val (.int q1), .val (.int q2), .val (.int q3), .val (.int q4), .val (.int ci), .val (.int u), .val (.int t1), .val (.int t2), .val (.ref bw), .val (.ref al), .val (.ref b188), .val (.ref b194), .val (.int (1 : Int32)), .val (.long (t1.toInt64)), .second, .val (.long (((ci.toInt64) * (((1 : Int32) + u).toInt64)) * (t1.toInt64))), .second, .val (.int (1 : Int32)), .unset, .unset, .unset, .unset, .unset] []))
      refine own_by (fun t k => XS.iload X205.here hx rfl (hb hby at_259) rfl k) ?_
      show own_Go p.tables e below K (T205.setTop (mkF m 261 #[.val (.int q1), .val (.int q2), .val (.int q3), .val (.int q4), .val (.int ci), .val (.int u), .val (.int t1), .val (.int t2), .val (.ref bw), .val (.ref al), .val (.ref b188), .val (.ref b194), .val (.int (1 : Int32)), .val (.long (t1.toInt64)), .second, .val (.long (((ci.toInt64) * (((1 : Int32) + u).toInt64)) * (t1.toInt64))), .second, .val (.int (1 : Int32)), .unset, .unset, .unset, .unset, .unset] [(.int t1)]))
      refine own_by (fun t k => XS.i2l X205.here hx rfl (hb hby at_261) rfl k) ?_
      show own_Go p.tables e below K (T205.setTop (mkF m 262 #[.val (.int q1), .val (.int q2), .val (.int q3), .val (.int q4), .val (.int ci), .val (.int u), .val (.int t1), .val (.int t2), .val (.ref bw), .val (.ref al), .val (.ref b188), .val (.ref b194), .val (.int (1 : Int32)), .val (.long (t1.toInt64)), .second, .val (.long (((ci.toInt64) * (((1 : Int32) + u).toInt64)) * (t1.toInt64))), .second, .val (.int (1 : Int32)), .unset, .unset, .unset, .unset, .unset] [(.long (t1.toInt64))]))
      refine own_by (fun t k => XS.iload X205.here hx rfl (hb hby at_262) rfl k) ?_
      show own_Go p.tables e below K (T205.setTop (mkF m 264 #[.val (.int q1), .val (.int q2), .val (.int q3), .val (.int q4), .val (.int ci), .val (.int u), .val (.int t1), .val (.int t2), .val (.ref bw), .val (.ref al), .val (.ref b188), .val (.ref b194), .val (.int (1 : Int32)), .val (.long (t1.toInt64)), .second, .val (.long (((ci.toInt64) * (((1 : Int32) + u).toInt64)) * (t1.toInt64))), .second, .val (.int (1 : Int32)), .unset, .unset, .unset, .unset, .unset] [(.int t2), (.long (t1.toInt64))]))
      refine own_by (fun t k => XS.i2l X205.here hx rfl (hb hby at_264) rfl k) ?_
      show own_Go p.tables e below K (T205.setTop (mkF m 265 #[.val (.int q1), .val (.int q2), .val (.int q3), .val (.int q4), .val (.int ci), .val (.int u), .val (.int t1), .val (.int t2), .val (.ref bw), .val (.ref al), .val (.ref b188), .val (.ref b194), .val (.int (1 : Int32)), .val (.long (t1.toInt64)), .second, .val (.long (((ci.toInt64) * (((1 : Int32) + u).toInt64)) * (t1.toInt64))), .second, .val (.int (1 : Int32)), .unset, .unset, .unset, .unset, .unset] [(.long (t2.toInt64)), (.long (t1.toInt64))]))
      refine own_by (fun t k => XS.ladd X205.here hx rfl (hb hby at_265) rfl k) ?_
      show own_Go p.tables e below K (T205.setTop (mkF m 266 #[.val (.int q1), .val (.int q2), .val (.int q3), .val (.int q4), .val (.int ci), .val (.int u), .val (.int t1), .val (.int t2), .val (.ref bw), .val (.ref al), .val (.ref b188), .val (.ref b194), .val (.int (1 : Int32)), .val (.long (t1.toInt64)), .second, .val (.long (((ci.toInt64) * (((1 : Int32) + u).toInt64)) * (t1.toInt64))), .second, .val (.int (1 : Int32)), .unset, .unset, .unset, .unset, .unset] [(.long ((t1.toInt64) + (t2.toInt64)))]))
      refine own_by (fun t k => XS.lstore X205.here hx rfl (hb hby at_266) rfl (l' := #[.val (.int q1), .val (.int q2), .val (.int q3), .val (.int q4), .val (.int ci), .val (.int u), .val (.int t1), .val (.int t2), .val (.ref bw), .val (.ref al), .val (.ref b188), .val (.ref b194), .val (.int (1 : Int32)), .val (.long (t1.toInt64)), .second, .val (.long (((ci.toInt64) * (((1 : Int32) + u).toInt64)) * (t1.toInt64))), .second, .val (.int (1 : Int32)), .val (.long ((t1.toInt64) + (t2.toInt64))), .second, .unset, .unset, .unset]) rfl k) ?_
      show own_Go p.tables e below K (T205.setTop (mkF m 268 #[.val (.int q1), .val (.int q2), .val (.int q3), .val (.int q4), .val (.int ci), .val (.int u), .val (.int t1), .val (.int t2), .val (.ref bw), .val (.ref al), .val (.ref b188), .val (.ref b194), .val (.int (1 : Int32)), .val (.long (t1.toInt64)), .second, .val (.long (((ci.toInt64) * (((1 : Int32) + u).toInt64)) * (t1.toInt64))), .second, .val (.int (1 : Int32)), .val (.long ((t1.toInt64) + (t2.toInt64))), .second, .unset, .unset, .unset] []))
      refine own_by (fun t k => XS.iload X205.here hx rfl (hb hby at_268) rfl k) ?_
      show own_Go p.tables e below K (T205.setTop (mkF m 270 #[.val (.int q1), .val (.int q2), .val (.int q3), .val (.int q4), .val (.int ci), .val (.int u), .val (.int t1), .val (.int t2), .val (.ref bw), .val (.ref al), .val (.ref b188), .val (.ref b194), .val (.int (1 : Int32)), .val (.long (t1.toInt64)), .second, .val (.long (((ci.toInt64) * (((1 : Int32) + u).toInt64)) * (t1.toInt64))), .second, .val (.int (1 : Int32)), .val (.long ((t1.toInt64) + (t2.toInt64))), .second, .unset, .unset, .unset] [(.int ci)]))
      refine own_by (fun t k => XS.i2l X205.here hx rfl (hb hby at_270) rfl k) ?_
      show own_Go p.tables e below K (T205.setTop (mkF m 271 #[.val (.int q1), .val (.int q2), .val (.int q3), .val (.int q4), .val (.int ci), .val (.int u), .val (.int t1), .val (.int t2), .val (.ref bw), .val (.ref al), .val (.ref b188), .val (.ref b194), .val (.int (1 : Int32)), .val (.long (t1.toInt64)), .second, .val (.long (((ci.toInt64) * (((1 : Int32) + u).toInt64)) * (t1.toInt64))), .second, .val (.int (1 : Int32)), .val (.long ((t1.toInt64) + (t2.toInt64))), .second, .unset, .unset, .unset] [(.long (ci.toInt64))]))
      refine own_by (fun t k => XS.iconst X205.here hx rfl (hb hby at_271) k) ?_
      show own_Go p.tables e below K (T205.setTop (mkF m 272 #[.val (.int q1), .val (.int q2), .val (.int q3), .val (.int q4), .val (.int ci), .val (.int u), .val (.int t1), .val (.int t2), .val (.ref bw), .val (.ref al), .val (.ref b188), .val (.ref b194), .val (.int (1 : Int32)), .val (.long (t1.toInt64)), .second, .val (.long (((ci.toInt64) * (((1 : Int32) + u).toInt64)) * (t1.toInt64))), .second, .val (.int (1 : Int32)), .val (.long ((t1.toInt64) + (t2.toInt64))), .second, .unset, .unset, .unset] [(.int (2 : Int32)), (.long (ci.toInt64))]))
      refine own_by (fun t k => XS.iload X205.here hx rfl (hb hby at_272) rfl k) ?_
      show own_Go p.tables e below K (T205.setTop (mkF m 274 #[.val (.int q1), .val (.int q2), .val (.int q3), .val (.int q4), .val (.int ci), .val (.int u), .val (.int t1), .val (.int t2), .val (.ref bw), .val (.ref al), .val (.ref b188), .val (.ref b194), .val (.int (1 : Int32)), .val (.long (t1.toInt64)), .second, .val (.long (((ci.toInt64) * (((1 : Int32) + u).toInt64)) * (t1.toInt64))), .second, .val (.int (1 : Int32)), .val (.long ((t1.toInt64) + (t2.toInt64))), .second, .unset, .unset, .unset] [(.int u), (.int (2 : Int32)), (.long (ci.toInt64))]))
      refine own_by (fun t k => XS.iadd X205.here hx rfl (hb hby at_274) rfl k) ?_
      show own_Go p.tables e below K (T205.setTop (mkF m 275 #[.val (.int q1), .val (.int q2), .val (.int q3), .val (.int q4), .val (.int ci), .val (.int u), .val (.int t1), .val (.int t2), .val (.ref bw), .val (.ref al), .val (.ref b188), .val (.ref b194), .val (.int (1 : Int32)), .val (.long (t1.toInt64)), .second, .val (.long (((ci.toInt64) * (((1 : Int32) + u).toInt64)) * (t1.toInt64))), .second, .val (.int (1 : Int32)), .val (.long ((t1.toInt64) + (t2.toInt64))), .second, .unset, .unset, .unset] [(.int ((2 : Int32) + u)), (.long (ci.toInt64))]))
      refine own_by (fun t k => XS.i2l X205.here hx rfl (hb hby at_275) rfl k) ?_
      show own_Go p.tables e below K (T205.setTop (mkF m 276 #[.val (.int q1), .val (.int q2), .val (.int q3), .val (.int q4), .val (.int ci), .val (.int u), .val (.int t1), .val (.int t2), .val (.ref bw), .val (.ref al), .val (.ref b188), .val (.ref b194), .val (.int (1 : Int32)), .val (.long (t1.toInt64)), .second, .val (.long (((ci.toInt64) * (((1 : Int32) + u).toInt64)) * (t1.toInt64))), .second, .val (.int (1 : Int32)), .val (.long ((t1.toInt64) + (t2.toInt64))), .second, .unset, .unset, .unset] [(.long (((2 : Int32) + u).toInt64)), (.long (ci.toInt64))]))
      refine own_by (fun t k => XS.lmul X205.here hx rfl (hb hby at_276) rfl k) ?_
      show own_Go p.tables e below K (T205.setTop (mkF m 277 #[.val (.int q1), .val (.int q2), .val (.int q3), .val (.int q4), .val (.int ci), .val (.int u), .val (.int t1), .val (.int t2), .val (.ref bw), .val (.ref al), .val (.ref b188), .val (.ref b194), .val (.int (1 : Int32)), .val (.long (t1.toInt64)), .second, .val (.long (((ci.toInt64) * (((1 : Int32) + u).toInt64)) * (t1.toInt64))), .second, .val (.int (1 : Int32)), .val (.long ((t1.toInt64) + (t2.toInt64))), .second, .unset, .unset, .unset] [(.long ((ci.toInt64) * (((2 : Int32) + u).toInt64)))]))
      refine own_by (fun t k => XS.lload X205.here hx rfl (hb hby at_277) rfl k) ?_
      show own_Go p.tables e below K (T205.setTop (mkF m 279 #[.val (.int q1), .val (.int q2), .val (.int q3), .val (.int q4), .val (.int ci), .val (.int u), .val (.int t1), .val (.int t2), .val (.ref bw), .val (.ref al), .val (.ref b188), .val (.ref b194), .val (.int (1 : Int32)), .val (.long (t1.toInt64)), .second, .val (.long (((ci.toInt64) * (((1 : Int32) + u).toInt64)) * (t1.toInt64))), .second, .val (.int (1 : Int32)), .val (.long ((t1.toInt64) + (t2.toInt64))), .second, .unset, .unset, .unset] [(.long ((t1.toInt64) + (t2.toInt64))), (.long ((ci.toInt64) * (((2 : Int32) + u).toInt64)))]))
      refine own_by (fun t k => XS.lmul X205.here hx rfl (hb hby at_279) rfl k) ?_
      show own_Go p.tables e below K (T205.setTop (mkF m 280 #[.val (.int q1), .val (.int q2), .val (.int q3), .val (.int q4), .val (.int ci), .val (.int u), .val (.int t1), .val (.int t2), .val (.ref bw), .val (.ref al), .val (.ref b188), .val (.ref b194), .val (.int (1 : Int32)), .val (.long (t1.toInt64)), .second, .val (.long (((ci.toInt64) * (((1 : Int32) + u).toInt64)) * (t1.toInt64))), .second, .val (.int (1 : Int32)), .val (.long ((t1.toInt64) + (t2.toInt64))), .second, .unset, .unset, .unset] [(.long (((ci.toInt64) * (((2 : Int32) + u).toInt64)) * ((t1.toInt64) + (t2.toInt64))))]))
      refine own_by (fun t k => XS.lstore X205.here hx rfl (hb hby at_280) rfl (l' := #[.val (.int q1), .val (.int q2), .val (.int q3), .val (.int q4), .val (.int ci), .val (.int u), .val (.int t1), .val (.int t2), .val (.ref bw), .val (.ref al), .val (.ref b188), .val (.ref b194), .val (.int (1 : Int32)), .val (.long (t1.toInt64)), .second, .val (.long (((ci.toInt64) * (((1 : Int32) + u).toInt64)) * (t1.toInt64))), .second, .val (.int (1 : Int32)), .val (.long ((t1.toInt64) + (t2.toInt64))), .second, .val (.long (((ci.toInt64) * (((2 : Int32) + u).toInt64)) * ((t1.toInt64) + (t2.toInt64)))), .second, .unset]) rfl k) ?_
      show own_Go p.tables e below K (T205.setTop (mkF m 282 #[.val (.int q1), .val (.int q2), .val (.int q3), .val (.int q4), .val (.int ci), .val (.int u), .val (.int t1), .val (.int t2), .val (.ref bw), .val (.ref al), .val (.ref b188), .val (.ref b194), .val (.int (1 : Int32)), .val (.long (t1.toInt64)), .second, .val (.long (((ci.toInt64) * (((1 : Int32) + u).toInt64)) * (t1.toInt64))), .second, .val (.int (1 : Int32)), .val (.long ((t1.toInt64) + (t2.toInt64))), .second, .val (.long (((ci.toInt64) * (((2 : Int32) + u).toInt64)) * ((t1.toInt64) + (t2.toInt64)))), .second, .unset] []))
      refine own_by (fun t k => XS.aload X205.here hx rfl (hb hby at_282) rfl rfl k) ?_
      show own_Go p.tables e below K (T205.setTop (mkF m 284 #[.val (.int q1), .val (.int q2), .val (.int q3), .val (.int q4), .val (.int ci), .val (.int u), .val (.int t1), .val (.int t2), .val (.ref bw), .val (.ref al), .val (.ref b188), .val (.ref b194), .val (.int (1 : Int32)), .val (.long (t1.toInt64)), .second, .val (.long (((ci.toInt64) * (((1 : Int32) + u).toInt64)) * (t1.toInt64))), .second, .val (.int (1 : Int32)), .val (.long ((t1.toInt64) + (t2.toInt64))), .second, .val (.long (((ci.toInt64) * (((2 : Int32) + u).toInt64)) * ((t1.toInt64) + (t2.toInt64)))), .second, .unset] [(.ref b194)]))
      obtain ⟨T206, X206, e206, st206⟩ := getF X205 hx hZ hown (host := "") (Or.inl (hw _ (List.mem_of_getElem? (i := 230) rfl))) Via.refl rfl Bp205.2.2.2.1 (g := (mkF m 284 #[.val (.int q1), .val (.int q2), .val (.int q3), .val (.int q4), .val (.int ci), .val (.int u), .val (.int t1), .val (.int t2), .val (.ref bw), .val (.ref al), .val (.ref b188), .val (.ref b194), .val (.int (1 : Int32)), .val (.long (t1.toInt64)), .second, .val (.long (((ci.toInt64) * (((1 : Int32) + u).toInt64)) * (t1.toInt64))), .second, .val (.int (1 : Int32)), .val (.long ((t1.toInt64) + (t2.toInt64))), .second, .val (.long (((ci.toInt64) * (((2 : Int32) + u).toInt64)) * ((t1.toInt64) + (t2.toInt64)))), .second, .unset] [(.ref b194)])) rfl rfl (hb hby at_284)
      refine own_by st206 ?_
      show own_Go p.tables e below K (T206.setTop (mkF m 287 #[.val (.int q1), .val (.int q2), .val (.int q3), .val (.int q4), .val (.int ci), .val (.int u), .val (.int t1), .val (.int t2), .val (.ref bw), .val (.ref al), .val (.ref b188), .val (.ref b194), .val (.int (1 : Int32)), .val (.long (t1.toInt64)), .second, .val (.long (((ci.toInt64) * (((1 : Int32) + u).toInt64)) * (t1.toInt64))), .second, .val (.int (1 : Int32)), .val (.long ((t1.toInt64) + (t2.toInt64))), .second, .val (.long (((ci.toInt64) * (((2 : Int32) + u).toInt64)) * ((t1.toInt64) + (t2.toInt64)))), .second, .unset] [(.int (2 : Int32))]))
      refine own_by (fun t k => XS.iconst X206.here hx rfl (hb hby at_287) k) ?_
      show own_Go p.tables e below K (T206.setTop (mkF m 288 #[.val (.int q1), .val (.int q2), .val (.int q3), .val (.int q4), .val (.int ci), .val (.int u), .val (.int t1), .val (.int t2), .val (.ref bw), .val (.ref al), .val (.ref b188), .val (.ref b194), .val (.int (1 : Int32)), .val (.long (t1.toInt64)), .second, .val (.long (((ci.toInt64) * (((1 : Int32) + u).toInt64)) * (t1.toInt64))), .second, .val (.int (1 : Int32)), .val (.long ((t1.toInt64) + (t2.toInt64))), .second, .val (.long (((ci.toInt64) * (((2 : Int32) + u).toInt64)) * ((t1.toInt64) + (t2.toInt64)))), .second, .unset] [(.int (2 : Int32)), (.int (2 : Int32))]))
      have hc288 : (2 : Int32) = (2 : Int32) := by decide
      refine own_by (fun t k => XS.icmpNo X206.here hx rfl (hb hby at_288) rfl (teq hc288).2 k) ?_
      show own_Go p.tables e below K (T206.setTop (mkF m 291 #[.val (.int q1), .val (.int q2), .val (.int q3), .val (.int q4), .val (.int ci), .val (.int u), .val (.int t1), .val (.int t2), .val (.ref bw), .val (.ref al), .val (.ref b188), .val (.ref b194), .val (.int (1 : Int32)), .val (.long (t1.toInt64)), .second, .val (.long (((ci.toInt64) * (((1 : Int32) + u).toInt64)) * (t1.toInt64))), .second, .val (.int (1 : Int32)), .val (.long ((t1.toInt64) + (t2.toInt64))), .second, .val (.long (((ci.toInt64) * (((2 : Int32) + u).toInt64)) * ((t1.toInt64) + (t2.toInt64)))), .second, .unset] []))
      refine own_by (fun t k => XS.aload X206.here hx rfl (hb hby at_291) rfl rfl k) ?_
      show own_Go p.tables e below K (T206.setTop (mkF m 293 #[.val (.int q1), .val (.int q2), .val (.int q3), .val (.int q4), .val (.int ci), .val (.int u), .val (.int t1), .val (.int t2), .val (.ref bw), .val (.ref al), .val (.ref b188), .val (.ref b194), .val (.int (1 : Int32)), .val (.long (t1.toInt64)), .second, .val (.long (((ci.toInt64) * (((1 : Int32) + u).toInt64)) * (t1.toInt64))), .second, .val (.int (1 : Int32)), .val (.long ((t1.toInt64) + (t2.toInt64))), .second, .val (.long (((ci.toInt64) * (((2 : Int32) + u).toInt64)) * ((t1.toInt64) + (t2.toInt64)))), .second, .unset] [(.ref b194)]))
      obtain ⟨T207, X207, e207, st207⟩ := getF X206 hx hZ hown (host := "") (Or.inl (hw _ (List.mem_of_getElem? (i := 232) rfl))) Via.refl e206 Bp205.2.2.1 (g := (mkF m 293 #[.val (.int q1), .val (.int q2), .val (.int q3), .val (.int q4), .val (.int ci), .val (.int u), .val (.int t1), .val (.int t2), .val (.ref bw), .val (.ref al), .val (.ref b188), .val (.ref b194), .val (.int (1 : Int32)), .val (.long (t1.toInt64)), .second, .val (.long (((ci.toInt64) * (((1 : Int32) + u).toInt64)) * (t1.toInt64))), .second, .val (.int (1 : Int32)), .val (.long ((t1.toInt64) + (t2.toInt64))), .second, .val (.long (((ci.toInt64) * (((2 : Int32) + u).toInt64)) * ((t1.toInt64) + (t2.toInt64)))), .second, .unset] [(.ref b194)])) rfl rfl (hb hby at_293)
      refine own_by st207 ?_
      show own_Go p.tables e below K (T207.setTop (mkF m 296 #[.val (.int q1), .val (.int q2), .val (.int q3), .val (.int q4), .val (.int ci), .val (.int u), .val (.int t1), .val (.int t2), .val (.ref bw), .val (.ref al), .val (.ref b188), .val (.ref b194), .val (.int (1 : Int32)), .val (.long (t1.toInt64)), .second, .val (.long (((ci.toInt64) * (((1 : Int32) + u).toInt64)) * (t1.toInt64))), .second, .val (.int (1 : Int32)), .val (.long ((t1.toInt64) + (t2.toInt64))), .second, .val (.long (((ci.toInt64) * (((2 : Int32) + u).toInt64)) * ((t1.toInt64) + (t2.toInt64)))), .second, .unset] [(.int u)]))
      refine own_by (fun t k => XS.iload X207.here hx rfl (hb hby at_296) rfl k) ?_
      show own_Go p.tables e below K (T207.setTop (mkF m 298 #[.val (.int q1), .val (.int q2), .val (.int q3), .val (.int q4), .val (.int ci), .val (.int u), .val (.int t1), .val (.int t2), .val (.ref bw), .val (.ref al), .val (.ref b188), .val (.ref b194), .val (.int (1 : Int32)), .val (.long (t1.toInt64)), .second, .val (.long (((ci.toInt64) * (((1 : Int32) + u).toInt64)) * (t1.toInt64))), .second, .val (.int (1 : Int32)), .val (.long ((t1.toInt64) + (t2.toInt64))), .second, .val (.long (((ci.toInt64) * (((2 : Int32) + u).toInt64)) * ((t1.toInt64) + (t2.toInt64)))), .second, .unset] [(.int u), (.int u)]))
      have hc298 : u = u := rfl
      refine own_by (fun t k => XS.icmpNo X207.here hx rfl (hb hby at_298) rfl (teq hc298).2 k) ?_
      show own_Go p.tables e below K (T207.setTop (mkF m 301 #[.val (.int q1), .val (.int q2), .val (.int q3), .val (.int q4), .val (.int ci), .val (.int u), .val (.int t1), .val (.int t2), .val (.ref bw), .val (.ref al), .val (.ref b188), .val (.ref b194), .val (.int (1 : Int32)), .val (.long (t1.toInt64)), .second, .val (.long (((ci.toInt64) * (((1 : Int32) + u).toInt64)) * (t1.toInt64))), .second, .val (.int (1 : Int32)), .val (.long ((t1.toInt64) + (t2.toInt64))), .second, .val (.long (((ci.toInt64) * (((2 : Int32) + u).toInt64)) * ((t1.toInt64) + (t2.toInt64)))), .second, .unset] []))
      refine own_by (fun t k => XS.aload X207.here hx rfl (hb hby at_301) rfl rfl k) ?_
      show own_Go p.tables e below K (T207.setTop (mkF m 303 #[.val (.int q1), .val (.int q2), .val (.int q3), .val (.int q4), .val (.int ci), .val (.int u), .val (.int t1), .val (.int t2), .val (.ref bw), .val (.ref al), .val (.ref b188), .val (.ref b194), .val (.int (1 : Int32)), .val (.long (t1.toInt64)), .second, .val (.long (((ci.toInt64) * (((1 : Int32) + u).toInt64)) * (t1.toInt64))), .second, .val (.int (1 : Int32)), .val (.long ((t1.toInt64) + (t2.toInt64))), .second, .val (.long (((ci.toInt64) * (((2 : Int32) + u).toInt64)) * ((t1.toInt64) + (t2.toInt64)))), .second, .unset] [(.ref b194)]))
      obtain ⟨T208, X208, e208, st208⟩ := getF X207 hx hZ hown (host := "") (Or.inl (hw _ (List.mem_of_getElem? (i := 233) rfl))) Via.refl e207 Bp205.2.1 (g := (mkF m 303 #[.val (.int q1), .val (.int q2), .val (.int q3), .val (.int q4), .val (.int ci), .val (.int u), .val (.int t1), .val (.int t2), .val (.ref bw), .val (.ref al), .val (.ref b188), .val (.ref b194), .val (.int (1 : Int32)), .val (.long (t1.toInt64)), .second, .val (.long (((ci.toInt64) * (((1 : Int32) + u).toInt64)) * (t1.toInt64))), .second, .val (.int (1 : Int32)), .val (.long ((t1.toInt64) + (t2.toInt64))), .second, .val (.long (((ci.toInt64) * (((2 : Int32) + u).toInt64)) * ((t1.toInt64) + (t2.toInt64)))), .second, .unset] [(.ref b194)])) rfl rfl (hb hby at_303)
      refine own_by st208 ?_
      show own_Go p.tables e below K (T208.setTop (mkF m 306 #[.val (.int q1), .val (.int q2), .val (.int q3), .val (.int q4), .val (.int ci), .val (.int u), .val (.int t1), .val (.int t2), .val (.ref bw), .val (.ref al), .val (.ref b188), .val (.ref b194), .val (.int (1 : Int32)), .val (.long (t1.toInt64)), .second, .val (.long (((ci.toInt64) * (((1 : Int32) + u).toInt64)) * (t1.toInt64))), .second, .val (.int (1 : Int32)), .val (.long ((t1.toInt64) + (t2.toInt64))), .second, .val (.long (((ci.toInt64) * (((2 : Int32) + u).toInt64)) * ((t1.toInt64) + (t2.toInt64)))), .second, .unset] [(.double (FP.l2d ci.toInt64))]))
      refine own_by (fun t k => XS.iload X208.here hx rfl (hb hby at_306) rfl k) ?_
      show own_Go p.tables e below K (T208.setTop (mkF m 308 #[.val (.int q1), .val (.int q2), .val (.int q3), .val (.int q4), .val (.int ci), .val (.int u), .val (.int t1), .val (.int t2), .val (.ref bw), .val (.ref al), .val (.ref b188), .val (.ref b194), .val (.int (1 : Int32)), .val (.long (t1.toInt64)), .second, .val (.long (((ci.toInt64) * (((1 : Int32) + u).toInt64)) * (t1.toInt64))), .second, .val (.int (1 : Int32)), .val (.long ((t1.toInt64) + (t2.toInt64))), .second, .val (.long (((ci.toInt64) * (((2 : Int32) + u).toInt64)) * ((t1.toInt64) + (t2.toInt64)))), .second, .unset] [(.int ci), (.double (FP.l2d ci.toInt64))]))
      refine own_by (fun t k => XS.i2dS X208.here hx rfl (hb hby at_308) rfl (i2d_w _) k) ?_
      show own_Go p.tables e below K (T208.setTop (mkF m 309 #[.val (.int q1), .val (.int q2), .val (.int q3), .val (.int q4), .val (.int ci), .val (.int u), .val (.int t1), .val (.int t2), .val (.ref bw), .val (.ref al), .val (.ref b188), .val (.ref b194), .val (.int (1 : Int32)), .val (.long (t1.toInt64)), .second, .val (.long (((ci.toInt64) * (((1 : Int32) + u).toInt64)) * (t1.toInt64))), .second, .val (.int (1 : Int32)), .val (.long ((t1.toInt64) + (t2.toInt64))), .second, .val (.long (((ci.toInt64) * (((2 : Int32) + u).toInt64)) * ((t1.toInt64) + (t2.toInt64)))), .second, .unset] [(.double (FP.l2d ci.toInt64)), (.double (FP.l2d ci.toInt64))]))
      refine own_by (fun t k => XS.dcmpS (v := (0 : Int32)) X208.here hx rfl (hb hby at_309) rfl (dcmpV_self (nn_w rfl) _) k) ?_
      show own_Go p.tables e below K (T208.setTop (mkF m 310 #[.val (.int q1), .val (.int q2), .val (.int q3), .val (.int q4), .val (.int ci), .val (.int u), .val (.int t1), .val (.int t2), .val (.ref bw), .val (.ref al), .val (.ref b188), .val (.ref b194), .val (.int (1 : Int32)), .val (.long (t1.toInt64)), .second, .val (.long (((ci.toInt64) * (((1 : Int32) + u).toInt64)) * (t1.toInt64))), .second, .val (.int (1 : Int32)), .val (.long ((t1.toInt64) + (t2.toInt64))), .second, .val (.long (((ci.toInt64) * (((2 : Int32) + u).toInt64)) * ((t1.toInt64) + (t2.toInt64)))), .second, .unset] [(.int (0 : Int32))]))
      have hc310 : (0 : Int32) = (0 : Int32) := by decide
      refine own_by (fun t k => XS.ifNo X208.here hx rfl (hb hby at_310) rfl ((if0 _ _).trans (teq hc310).2) k) ?_
      show own_Go p.tables e below K (T208.setTop (mkF m 313 #[.val (.int q1), .val (.int q2), .val (.int q3), .val (.int q4), .val (.int ci), .val (.int u), .val (.int t1), .val (.int t2), .val (.ref bw), .val (.ref al), .val (.ref b188), .val (.ref b194), .val (.int (1 : Int32)), .val (.long (t1.toInt64)), .second, .val (.long (((ci.toInt64) * (((1 : Int32) + u).toInt64)) * (t1.toInt64))), .second, .val (.int (1 : Int32)), .val (.long ((t1.toInt64) + (t2.toInt64))), .second, .val (.long (((ci.toInt64) * (((2 : Int32) + u).toInt64)) * ((t1.toInt64) + (t2.toInt64)))), .second, .unset] []))
      refine own_by (fun t k => XS.aload X208.here hx rfl (hb hby at_313) rfl rfl k) ?_
      show own_Go p.tables e below K (T208.setTop (mkF m 315 #[.val (.int q1), .val (.int q2), .val (.int q3), .val (.int q4), .val (.int ci), .val (.int u), .val (.int t1), .val (.int t2), .val (.ref bw), .val (.ref al), .val (.ref b188), .val (.ref b194), .val (.int (1 : Int32)), .val (.long (t1.toInt64)), .second, .val (.long (((ci.toInt64) * (((1 : Int32) + u).toInt64)) * (t1.toInt64))), .second, .val (.int (1 : Int32)), .val (.long ((t1.toInt64) + (t2.toInt64))), .second, .val (.long (((ci.toInt64) * (((2 : Int32) + u).toInt64)) * ((t1.toInt64) + (t2.toInt64)))), .second, .unset] [(.ref b194)]))
      obtain ⟨T209, X209, e209, st209⟩ := getF X208 hx hZ hown (host := "") (Or.inl (hw _ (List.mem_of_getElem? (i := 249) rfl))) Via.refl e208 Bp205.2.2.2.2.1 (g := (mkF m 315 #[.val (.int q1), .val (.int q2), .val (.int q3), .val (.int q4), .val (.int ci), .val (.int u), .val (.int t1), .val (.int t2), .val (.ref bw), .val (.ref al), .val (.ref b188), .val (.ref b194), .val (.int (1 : Int32)), .val (.long (t1.toInt64)), .second, .val (.long (((ci.toInt64) * (((1 : Int32) + u).toInt64)) * (t1.toInt64))), .second, .val (.int (1 : Int32)), .val (.long ((t1.toInt64) + (t2.toInt64))), .second, .val (.long (((ci.toInt64) * (((2 : Int32) + u).toInt64)) * ((t1.toInt64) + (t2.toInt64)))), .second, .unset] [(.ref b194)])) rfl rfl (hb hby at_315)
      refine own_by st209 ?_
      show own_Go p.tables e below K (T209.setTop (mkF m 318 #[.val (.int q1), .val (.int q2), .val (.int q3), .val (.int q4), .val (.int ci), .val (.int u), .val (.int t1), .val (.int t2), .val (.ref bw), .val (.ref al), .val (.ref b188), .val (.ref b194), .val (.int (1 : Int32)), .val (.long (t1.toInt64)), .second, .val (.long (((ci.toInt64) * (((1 : Int32) + u).toInt64)) * (t1.toInt64))), .second, .val (.int (1 : Int32)), .val (.long ((t1.toInt64) + (t2.toInt64))), .second, .val (.long (((ci.toInt64) * (((2 : Int32) + u).toInt64)) * ((t1.toInt64) + (t2.toInt64)))), .second, .unset] [(.double (FP.l2d ((0 + t1.toInt64) + t2.toInt64)))]))
      refine own_by (fun t k => XS.lload X209.here hx rfl (hb hby at_318) rfl k) ?_
      show own_Go p.tables e below K (T209.setTop (mkF m 320 #[.val (.int q1), .val (.int q2), .val (.int q3), .val (.int q4), .val (.int ci), .val (.int u), .val (.int t1), .val (.int t2), .val (.ref bw), .val (.ref al), .val (.ref b188), .val (.ref b194), .val (.int (1 : Int32)), .val (.long (t1.toInt64)), .second, .val (.long (((ci.toInt64) * (((1 : Int32) + u).toInt64)) * (t1.toInt64))), .second, .val (.int (1 : Int32)), .val (.long ((t1.toInt64) + (t2.toInt64))), .second, .val (.long (((ci.toInt64) * (((2 : Int32) + u).toInt64)) * ((t1.toInt64) + (t2.toInt64)))), .second, .unset] [(.long ((t1.toInt64) + (t2.toInt64))), (.double (FP.l2d ((0 + t1.toInt64) + t2.toInt64)))]))
      refine own_by (fun t k => XS.l2dS X209.here hx rfl (hb hby at_320) rfl rfl k) ?_
      show own_Go p.tables e below K (T209.setTop (mkF m 321 #[.val (.int q1), .val (.int q2), .val (.int q3), .val (.int q4), .val (.int ci), .val (.int u), .val (.int t1), .val (.int t2), .val (.ref bw), .val (.ref al), .val (.ref b188), .val (.ref b194), .val (.int (1 : Int32)), .val (.long (t1.toInt64)), .second, .val (.long (((ci.toInt64) * (((1 : Int32) + u).toInt64)) * (t1.toInt64))), .second, .val (.int (1 : Int32)), .val (.long ((t1.toInt64) + (t2.toInt64))), .second, .val (.long (((ci.toInt64) * (((2 : Int32) + u).toInt64)) * ((t1.toInt64) + (t2.toInt64)))), .second, .unset] [(.double (FP.l2d ((t1.toInt64) + (t2.toInt64)))), (.double (FP.l2d ((0 + t1.toInt64) + t2.toInt64)))]))
      refine own_by (fun t k => XS.dcmpS (v := (0 : Int32)) X209.here hx rfl (hb hby at_321) rfl (dcmpV_eq (by rw [Int64.zero_add]) (nn_w rfl) _) k) ?_
      show own_Go p.tables e below K (T209.setTop (mkF m 322 #[.val (.int q1), .val (.int q2), .val (.int q3), .val (.int q4), .val (.int ci), .val (.int u), .val (.int t1), .val (.int t2), .val (.ref bw), .val (.ref al), .val (.ref b188), .val (.ref b194), .val (.int (1 : Int32)), .val (.long (t1.toInt64)), .second, .val (.long (((ci.toInt64) * (((1 : Int32) + u).toInt64)) * (t1.toInt64))), .second, .val (.int (1 : Int32)), .val (.long ((t1.toInt64) + (t2.toInt64))), .second, .val (.long (((ci.toInt64) * (((2 : Int32) + u).toInt64)) * ((t1.toInt64) + (t2.toInt64)))), .second, .unset] [(.int (0 : Int32))]))
      have hc322 : (0 : Int32) = (0 : Int32) := by decide
      refine own_by (fun t k => XS.ifNo X209.here hx rfl (hb hby at_322) rfl ((if0 _ _).trans (teq hc322).2) k) ?_
      show own_Go p.tables e below K (T209.setTop (mkF m 325 #[.val (.int q1), .val (.int q2), .val (.int q3), .val (.int q4), .val (.int ci), .val (.int u), .val (.int t1), .val (.int t2), .val (.ref bw), .val (.ref al), .val (.ref b188), .val (.ref b194), .val (.int (1 : Int32)), .val (.long (t1.toInt64)), .second, .val (.long (((ci.toInt64) * (((1 : Int32) + u).toInt64)) * (t1.toInt64))), .second, .val (.int (1 : Int32)), .val (.long ((t1.toInt64) + (t2.toInt64))), .second, .val (.long (((ci.toInt64) * (((2 : Int32) + u).toInt64)) * ((t1.toInt64) + (t2.toInt64)))), .second, .unset] []))
      refine own_by (fun t k => XS.aload X209.here hx rfl (hb hby at_325) rfl rfl k) ?_
      show own_Go p.tables e below K (T209.setTop (mkF m 327 #[.val (.int q1), .val (.int q2), .val (.int q3), .val (.int q4), .val (.int ci), .val (.int u), .val (.int t1), .val (.int t2), .val (.ref bw), .val (.ref al), .val (.ref b188), .val (.ref b194), .val (.int (1 : Int32)), .val (.long (t1.toInt64)), .second, .val (.long (((ci.toInt64) * (((1 : Int32) + u).toInt64)) * (t1.toInt64))), .second, .val (.int (1 : Int32)), .val (.long ((t1.toInt64) + (t2.toInt64))), .second, .val (.long (((ci.toInt64) * (((2 : Int32) + u).toInt64)) * ((t1.toInt64) + (t2.toInt64)))), .second, .unset] [(.ref b194)]))
      obtain ⟨T210, X210, e210, st210⟩ := getF X209 hx hZ hown (host := "") (Or.inl (hw _ (List.mem_of_getElem? (i := 250) rfl))) Via.refl e209 Bp205.2.2.2.2.2 (g := (mkF m 327 #[.val (.int q1), .val (.int q2), .val (.int q3), .val (.int q4), .val (.int ci), .val (.int u), .val (.int t1), .val (.int t2), .val (.ref bw), .val (.ref al), .val (.ref b188), .val (.ref b194), .val (.int (1 : Int32)), .val (.long (t1.toInt64)), .second, .val (.long (((ci.toInt64) * (((1 : Int32) + u).toInt64)) * (t1.toInt64))), .second, .val (.int (1 : Int32)), .val (.long ((t1.toInt64) + (t2.toInt64))), .second, .val (.long (((ci.toInt64) * (((2 : Int32) + u).toInt64)) * ((t1.toInt64) + (t2.toInt64)))), .second, .unset] [(.ref b194)])) rfl rfl (hb hby at_327)
      refine own_by st210 ?_
      show own_Go p.tables e below K (T210.setTop (mkF m 330 #[.val (.int q1), .val (.int q2), .val (.int q3), .val (.int q4), .val (.int ci), .val (.int u), .val (.int t1), .val (.int t2), .val (.ref bw), .val (.ref al), .val (.ref b188), .val (.ref b194), .val (.int (1 : Int32)), .val (.long (t1.toInt64)), .second, .val (.long (((ci.toInt64) * (((1 : Int32) + u).toInt64)) * (t1.toInt64))), .second, .val (.int (1 : Int32)), .val (.long ((t1.toInt64) + (t2.toInt64))), .second, .val (.long (((ci.toInt64) * (((2 : Int32) + u).toInt64)) * ((t1.toInt64) + (t2.toInt64)))), .second, .unset] [(.double (FP.dmul (FP.l2d (ci.toInt64 * ((2 : Int32) + u).toInt64)) (FP.l2d ((0 + t1.toInt64) + t2.toInt64))))]))
      refine own_by (fun t k => XS.lload X210.here hx rfl (hb hby at_330) rfl k) ?_
      show own_Go p.tables e below K (T210.setTop (mkF m 332 #[.val (.int q1), .val (.int q2), .val (.int q3), .val (.int q4), .val (.int ci), .val (.int u), .val (.int t1), .val (.int t2), .val (.ref bw), .val (.ref al), .val (.ref b188), .val (.ref b194), .val (.int (1 : Int32)), .val (.long (t1.toInt64)), .second, .val (.long (((ci.toInt64) * (((1 : Int32) + u).toInt64)) * (t1.toInt64))), .second, .val (.int (1 : Int32)), .val (.long ((t1.toInt64) + (t2.toInt64))), .second, .val (.long (((ci.toInt64) * (((2 : Int32) + u).toInt64)) * ((t1.toInt64) + (t2.toInt64)))), .second, .unset] [(.long (((ci.toInt64) * (((2 : Int32) + u).toInt64)) * ((t1.toInt64) + (t2.toInt64)))), (.double (FP.dmul (FP.l2d (ci.toInt64 * ((2 : Int32) + u).toInt64)) (FP.l2d ((0 + t1.toInt64) + t2.toInt64))))]))
      refine own_by (fun t k => XS.l2dS X210.here hx rfl (hb hby at_332) rfl rfl k) ?_
      show own_Go p.tables e below K (T210.setTop (mkF m 333 #[.val (.int q1), .val (.int q2), .val (.int q3), .val (.int q4), .val (.int ci), .val (.int u), .val (.int t1), .val (.int t2), .val (.ref bw), .val (.ref al), .val (.ref b188), .val (.ref b194), .val (.int (1 : Int32)), .val (.long (t1.toInt64)), .second, .val (.long (((ci.toInt64) * (((1 : Int32) + u).toInt64)) * (t1.toInt64))), .second, .val (.int (1 : Int32)), .val (.long ((t1.toInt64) + (t2.toInt64))), .second, .val (.long (((ci.toInt64) * (((2 : Int32) + u).toInt64)) * ((t1.toInt64) + (t2.toInt64)))), .second, .unset] [(.double (FP.l2d (((ci.toInt64) * (((2 : Int32) + u).toInt64)) * ((t1.toInt64) + (t2.toInt64))))), (.double (FP.dmul (FP.l2d (ci.toInt64 * ((2 : Int32) + u).toInt64)) (FP.l2d ((0 + t1.toInt64) + t2.toInt64))))]))
      refine own_by (fun t k => XS.dcmpS (v := (0 : Int32)) X210.here hx rfl (hb hby at_333) rfl (by rw [Int64.zero_add]; exact (own_m2 (own_mt hci'.1 hci'.2 (own_wc2 hu).1 (own_wc2 hu).2).1 (own_mt hci'.1 hci'.2 (own_wc2 hu).1 (own_wc2 hu).2).2 hB2.1 hB2.2).2) k) ?_
      show own_Go p.tables e below K (T210.setTop (mkF m 334 #[.val (.int q1), .val (.int q2), .val (.int q3), .val (.int q4), .val (.int ci), .val (.int u), .val (.int t1), .val (.int t2), .val (.ref bw), .val (.ref al), .val (.ref b188), .val (.ref b194), .val (.int (1 : Int32)), .val (.long (t1.toInt64)), .second, .val (.long (((ci.toInt64) * (((1 : Int32) + u).toInt64)) * (t1.toInt64))), .second, .val (.int (1 : Int32)), .val (.long ((t1.toInt64) + (t2.toInt64))), .second, .val (.long (((ci.toInt64) * (((2 : Int32) + u).toInt64)) * ((t1.toInt64) + (t2.toInt64)))), .second, .unset] [(.int (0 : Int32))]))
      have hc334 : (0 : Int32) = (0 : Int32) := by decide
      refine own_by (fun t k => XS.ifNo X210.here hx rfl (hb hby at_334) rfl ((if0 _ _).trans (teq hc334).2) k) ?_
      show own_Go p.tables e below K (T210.setTop (mkF m 337 #[.val (.int q1), .val (.int q2), .val (.int q3), .val (.int q4), .val (.int ci), .val (.int u), .val (.int t1), .val (.int t2), .val (.ref bw), .val (.ref al), .val (.ref b188), .val (.ref b194), .val (.int (1 : Int32)), .val (.long (t1.toInt64)), .second, .val (.long (((ci.toInt64) * (((1 : Int32) + u).toInt64)) * (t1.toInt64))), .second, .val (.int (1 : Int32)), .val (.long ((t1.toInt64) + (t2.toInt64))), .second, .val (.long (((ci.toInt64) * (((2 : Int32) + u).toInt64)) * ((t1.toInt64) + (t2.toInt64)))), .second, .unset] []))
      refine own_by (fun t k => XS.iconst X210.here hx rfl (hb hby at_337) k) ?_
      show own_Go p.tables e below K (T210.setTop (mkF m 338 #[.val (.int q1), .val (.int q2), .val (.int q3), .val (.int q4), .val (.int ci), .val (.int u), .val (.int t1), .val (.int t2), .val (.ref bw), .val (.ref al), .val (.ref b188), .val (.ref b194), .val (.int (1 : Int32)), .val (.long (t1.toInt64)), .second, .val (.long (((ci.toInt64) * (((1 : Int32) + u).toInt64)) * (t1.toInt64))), .second, .val (.int (1 : Int32)), .val (.long ((t1.toInt64) + (t2.toInt64))), .second, .val (.long (((ci.toInt64) * (((2 : Int32) + u).toInt64)) * ((t1.toInt64) + (t2.toInt64)))), .second, .unset] [(.int (1 : Int32))]))
      refine own_by (fun t k => XS.goto X210.here hx rfl (pc0 := 338) (pc' := 342) rfl (hb hby at_338) (by decide) (by decide) k) ?_
      show own_Go p.tables e below K (T210.setTop (mkF m 342 #[.val (.int q1), .val (.int q2), .val (.int q3), .val (.int q4), .val (.int ci), .val (.int u), .val (.int t1), .val (.int t2), .val (.ref bw), .val (.ref al), .val (.ref b188), .val (.ref b194), .val (.int (1 : Int32)), .val (.long (t1.toInt64)), .second, .val (.long (((ci.toInt64) * (((1 : Int32) + u).toInt64)) * (t1.toInt64))), .second, .val (.int (1 : Int32)), .val (.long ((t1.toInt64) + (t2.toInt64))), .second, .val (.long (((ci.toInt64) * (((2 : Int32) + u).toInt64)) * ((t1.toInt64) + (t2.toInt64)))), .second, .unset] [(.int (1 : Int32))]))
      refine own_by (fun t k => XS.istore X210.here hx rfl (hb hby at_342) rfl (l' := #[.val (.int q1), .val (.int q2), .val (.int q3), .val (.int q4), .val (.int ci), .val (.int u), .val (.int t1), .val (.int t2), .val (.ref bw), .val (.ref al), .val (.ref b188), .val (.ref b194), .val (.int (1 : Int32)), .val (.long (t1.toInt64)), .second, .val (.long (((ci.toInt64) * (((1 : Int32) + u).toInt64)) * (t1.toInt64))), .second, .val (.int (1 : Int32)), .val (.long ((t1.toInt64) + (t2.toInt64))), .second, .val (.long (((ci.toInt64) * (((2 : Int32) + u).toInt64)) * ((t1.toInt64) + (t2.toInt64)))), .second, .val (.int (1 : Int32))]) rfl k) ?_
      show own_Go p.tables e below K (T210.setTop (mkF m 344 #[.val (.int q1), .val (.int q2), .val (.int q3), .val (.int q4), .val (.int ci), .val (.int u), .val (.int t1), .val (.int t2), .val (.ref bw), .val (.ref al), .val (.ref b188), .val (.ref b194), .val (.int (1 : Int32)), .val (.long (t1.toInt64)), .second, .val (.long (((ci.toInt64) * (((1 : Int32) + u).toInt64)) * (t1.toInt64))), .second, .val (.int (1 : Int32)), .val (.long ((t1.toInt64) + (t2.toInt64))), .second, .val (.long (((ci.toInt64) * (((2 : Int32) + u).toInt64)) * ((t1.toInt64) + (t2.toInt64)))), .second, .val (.int (1 : Int32))] []))
      refine own_by (fun t k => XS.iload X210.here hx rfl (hb hby at_344) rfl k) ?_
      show own_Go p.tables e below K (T210.setTop (mkF m 346 #[.val (.int q1), .val (.int q2), .val (.int q3), .val (.int q4), .val (.int ci), .val (.int u), .val (.int t1), .val (.int t2), .val (.ref bw), .val (.ref al), .val (.ref b188), .val (.ref b194), .val (.int (1 : Int32)), .val (.long (t1.toInt64)), .second, .val (.long (((ci.toInt64) * (((1 : Int32) + u).toInt64)) * (t1.toInt64))), .second, .val (.int (1 : Int32)), .val (.long ((t1.toInt64) + (t2.toInt64))), .second, .val (.long (((ci.toInt64) * (((2 : Int32) + u).toInt64)) * ((t1.toInt64) + (t2.toInt64)))), .second, .val (.int (1 : Int32))] [(.int (1 : Int32))]))
      have hc346 : ¬ ((1 : Int32) = (0 : Int32)) := by decide
      refine own_by (fun t k => XS.ifNo X210.here hx rfl (hb hby at_346) rfl ((if0 _ _).trans (feq hc346).1) k) ?_
      show own_Go p.tables e below K (T210.setTop (mkF m 349 #[.val (.int q1), .val (.int q2), .val (.int q3), .val (.int q4), .val (.int ci), .val (.int u), .val (.int t1), .val (.int t2), .val (.ref bw), .val (.ref al), .val (.ref b188), .val (.ref b194), .val (.int (1 : Int32)), .val (.long (t1.toInt64)), .second, .val (.long (((ci.toInt64) * (((1 : Int32) + u).toInt64)) * (t1.toInt64))), .second, .val (.int (1 : Int32)), .val (.long ((t1.toInt64) + (t2.toInt64))), .second, .val (.long (((ci.toInt64) * (((2 : Int32) + u).toInt64)) * ((t1.toInt64) + (t2.toInt64)))), .second, .val (.int (1 : Int32))] []))
      refine own_by (fun t k => XS.iload X210.here hx rfl (hb hby at_349) rfl k) ?_
      show own_Go p.tables e below K (T210.setTop (mkF m 351 #[.val (.int q1), .val (.int q2), .val (.int q3), .val (.int q4), .val (.int ci), .val (.int u), .val (.int t1), .val (.int t2), .val (.ref bw), .val (.ref al), .val (.ref b188), .val (.ref b194), .val (.int (1 : Int32)), .val (.long (t1.toInt64)), .second, .val (.long (((ci.toInt64) * (((1 : Int32) + u).toInt64)) * (t1.toInt64))), .second, .val (.int (1 : Int32)), .val (.long ((t1.toInt64) + (t2.toInt64))), .second, .val (.long (((ci.toInt64) * (((2 : Int32) + u).toInt64)) * ((t1.toInt64) + (t2.toInt64)))), .second, .val (.int (1 : Int32))] [(.int (1 : Int32))]))
      have hc351 : ¬ ((1 : Int32) = (0 : Int32)) := by decide
      refine own_by (fun t k => XS.ifNo X210.here hx rfl (hb hby at_351) rfl ((if0 _ _).trans (feq hc351).1) k) ?_
      show own_Go p.tables e below K (T210.setTop (mkF m 354 #[.val (.int q1), .val (.int q2), .val (.int q3), .val (.int q4), .val (.int ci), .val (.int u), .val (.int t1), .val (.int t2), .val (.ref bw), .val (.ref al), .val (.ref b188), .val (.ref b194), .val (.int (1 : Int32)), .val (.long (t1.toInt64)), .second, .val (.long (((ci.toInt64) * (((1 : Int32) + u).toInt64)) * (t1.toInt64))), .second, .val (.int (1 : Int32)), .val (.long ((t1.toInt64) + (t2.toInt64))), .second, .val (.long (((ci.toInt64) * (((2 : Int32) + u).toInt64)) * ((t1.toInt64) + (t2.toInt64)))), .second, .val (.int (1 : Int32))] []))
      refine own_by (fun t k => XS.iload X210.here hx rfl (hb hby at_354) rfl k) ?_
      show own_Go p.tables e below K (T210.setTop (mkF m 356 #[.val (.int q1), .val (.int q2), .val (.int q3), .val (.int q4), .val (.int ci), .val (.int u), .val (.int t1), .val (.int t2), .val (.ref bw), .val (.ref al), .val (.ref b188), .val (.ref b194), .val (.int (1 : Int32)), .val (.long (t1.toInt64)), .second, .val (.long (((ci.toInt64) * (((1 : Int32) + u).toInt64)) * (t1.toInt64))), .second, .val (.int (1 : Int32)), .val (.long ((t1.toInt64) + (t2.toInt64))), .second, .val (.long (((ci.toInt64) * (((2 : Int32) + u).toInt64)) * ((t1.toInt64) + (t2.toInt64)))), .second, .val (.int (1 : Int32))] [(.int (1 : Int32))]))
      have hc356 : ¬ ((1 : Int32) = (0 : Int32)) := by decide
      refine own_by (fun t k => XS.ifNo X210.here hx rfl (hb hby at_356) rfl ((if0 _ _).trans (feq hc356).1) k) ?_
      show own_Go p.tables e below K (T210.setTop (mkF m 359 #[.val (.int q1), .val (.int q2), .val (.int q3), .val (.int q4), .val (.int ci), .val (.int u), .val (.int t1), .val (.int t2), .val (.ref bw), .val (.ref al), .val (.ref b188), .val (.ref b194), .val (.int (1 : Int32)), .val (.long (t1.toInt64)), .second, .val (.long (((ci.toInt64) * (((1 : Int32) + u).toInt64)) * (t1.toInt64))), .second, .val (.int (1 : Int32)), .val (.long ((t1.toInt64) + (t2.toInt64))), .second, .val (.long (((ci.toInt64) * (((2 : Int32) + u).toInt64)) * ((t1.toInt64) + (t2.toInt64)))), .second, .val (.int (1 : Int32))] []))
      refine own_by (fun t k => XS.iconst X210.here hx rfl (hb hby at_359) k) ?_
      show own_Go p.tables e below K (T210.setTop (mkF m 360 #[.val (.int q1), .val (.int q2), .val (.int q3), .val (.int q4), .val (.int ci), .val (.int u), .val (.int t1), .val (.int t2), .val (.ref bw), .val (.ref al), .val (.ref b188), .val (.ref b194), .val (.int (1 : Int32)), .val (.long (t1.toInt64)), .second, .val (.long (((ci.toInt64) * (((1 : Int32) + u).toInt64)) * (t1.toInt64))), .second, .val (.int (1 : Int32)), .val (.long ((t1.toInt64) + (t2.toInt64))), .second, .val (.long (((ci.toInt64) * (((2 : Int32) + u).toInt64)) * ((t1.toInt64) + (t2.toInt64)))), .second, .val (.int (1 : Int32))] [(.int (1 : Int32))]))
      refine own_by (fun t k => XS.goto X210.here hx rfl (pc0 := 360) (pc' := 364) rfl (hb hby at_360) (by decide) (by decide) k) ?_
      show own_Go p.tables e below K (T210.setTop (mkF m 364 #[.val (.int q1), .val (.int q2), .val (.int q3), .val (.int q4), .val (.int ci), .val (.int u), .val (.int t1), .val (.int t2), .val (.ref bw), .val (.ref al), .val (.ref b188), .val (.ref b194), .val (.int (1 : Int32)), .val (.long (t1.toInt64)), .second, .val (.long (((ci.toInt64) * (((1 : Int32) + u).toInt64)) * (t1.toInt64))), .second, .val (.int (1 : Int32)), .val (.long ((t1.toInt64) + (t2.toInt64))), .second, .val (.long (((ci.toInt64) * (((2 : Int32) + u).toInt64)) * ((t1.toInt64) + (t2.toInt64)))), .second, .val (.int (1 : Int32))] [(.int (1 : Int32))]))
      exact own_retZ X210 hx (t := .boolean) hret (by simp) (hb hby at_364) (hK (some (.int (1 : Int32))) X210 hS190 (by rw [e210]; exact Nat.le_trans (by rw [hh0]; exact hk190) K205.1) (fun h => by rw [hret] at h; cases h) ⟨rfl, hn0 ▸ N205⟩ (by decide) (by decide))
    show own_Go p.tables e below K (s₁.setTop (mkF m 23 #[.val (.int q1), .val (.int q2), .val (.int q3), .val (.int q4), .val (.int ci), .val (.int u), .val (.int t1), .val (.int t2), .unset, .unset, .unset, .unset, .unset, .unset, .unset, .unset, .unset, .unset, .unset, .unset, .unset, .unset, .unset] []))
    obtain ⟨T211, h211, X211, e211, E211, A211, D211, -, st211⟩ := newO X0 hx hZ hown (hw _ (List.mem_of_getElem? (i := 2) rfl)) (hw _ (List.mem_of_getElem? (i := 3) rfl)) (hw _ (List.mem_of_getElem? (i := 4) rfl)) e0 (g := (mkF m 23 #[.val (.int q1), .val (.int q2), .val (.int q3), .val (.int q4), .val (.int ci), .val (.int u), .val (.int t1), .val (.int t2), .unset, .unset, .unset, .unset, .unset, .unset, .unset, .unset, .unset, .unset, .unset, .unset, .unset, .unset, .unset] [])) rfl (hb hby at_23) (by decide) (by decide)
    obtain ⟨b211, g211⟩ : ∃ z, z = Z.heap.size := ⟨_, rfl⟩
    rw [← g211] at A211 D211 st211
    refine own_by st211 ?_
    have gn_b211 : n0 ≤ b211 := Nat.le_trans Z0 (Nat.le_of_eq g211.symm)
    have Z211 := Nat.le_trans Z0 E211.1
    have O211 := O0.ext E211
    have F211_startS_b211 : Fld Z h211 b211 "com/example/skyroster/skyroster/UsedWindow" "startS" "J" (.long (0 : Int64)) := D211 (Or.inr (hw _ (List.mem_of_getElem? (i := 17) rfl))) (ty := .long) (by decide)
    have F211_endS_b211 : Fld Z h211 b211 "com/example/skyroster/skyroster/UsedWindow" "endS" "J" (.long (0 : Int64)) := D211 (Or.inr (hw _ (List.mem_of_getElem? (i := 19) rfl))) (ty := .long) (by decide)
    have F211_orbit_b211 : Fld Z h211 b211 "com/example/skyroster/skyroster/UsedWindow" "orbit" "J" (.long (0 : Int64)) := D211 (Or.inr (hw _ (List.mem_of_getElem? (i := 21) rfl))) (ty := .long) (by decide)
    show own_Go p.tables e below K (T211.setTop (mkF m 26 #[.val (.int q1), .val (.int q2), .val (.int q3), .val (.int q4), .val (.int ci), .val (.int u), .val (.int t1), .val (.int t2), .unset, .unset, .unset, .unset, .unset, .unset, .unset, .unset, .unset, .unset, .unset, .unset, .unset, .unset, .unset] [(.ref b211)]))
    refine own_by (fun t k => XS.dup X211.here hx rfl (hb hby at_26) rfl rfl k) ?_
    show own_Go p.tables e below K (T211.setTop (mkF m 27 #[.val (.int q1), .val (.int q2), .val (.int q3), .val (.int q4), .val (.int ci), .val (.int u), .val (.int t1), .val (.int t2), .unset, .unset, .unset, .unset, .unset, .unset, .unset, .unset, .unset, .unset, .unset, .unset, .unset, .unset, .unset] [(.ref b211), (.ref b211)]))
    refine own_by (fun t k => XS.lconst X211.here hx rfl (hb hby at_27) k) ?_
    show own_Go p.tables e below K (T211.setTop (mkF m 28 #[.val (.int q1), .val (.int q2), .val (.int q3), .val (.int q4), .val (.int ci), .val (.int u), .val (.int t1), .val (.int t2), .unset, .unset, .unset, .unset, .unset, .unset, .unset, .unset, .unset, .unset, .unset, .unset, .unset, .unset, .unset] [(.long (0 : Int64)), (.ref b211), (.ref b211)]))
    refine own_by (fun t k => XS.lconst X211.here hx rfl (hb hby at_28) k) ?_
    show own_Go p.tables e below K (T211.setTop (mkF m 29 #[.val (.int q1), .val (.int q2), .val (.int q3), .val (.int q4), .val (.int ci), .val (.int u), .val (.int t1), .val (.int t2), .unset, .unset, .unset, .unset, .unset, .unset, .unset, .unset, .unset, .unset, .unset, .unset, .unset, .unset, .unset] [(.long (1 : Int64)), (.long (0 : Int64)), (.ref b211), (.ref b211)]))
    refine own_by (fun t k => XS.lconst X211.here hx rfl (hb hby at_29) k) ?_
    show own_Go p.tables e below K (T211.setTop (mkF m 30 #[.val (.int q1), .val (.int q2), .val (.int q3), .val (.int q4), .val (.int ci), .val (.int u), .val (.int t1), .val (.int t2), .unset, .unset, .unset, .unset, .unset, .unset, .unset, .unset, .unset, .unset, .unset, .unset, .unset, .unset, .unset] [(.long (0 : Int64)), (.long (1 : Int64)), (.long (0 : Int64)), (.ref b211), (.ref b211)]))
    obtain ⟨_, _, ⟨T212, L212, k212, n212⟩, -, X212, ⟨Lc212, hQ212, l212, y212, z212⟩, st212⟩ := X211.specialBack hx (y := (⟨"com/example/skyroster/skyroster/UsedWindow", "<init>", "(JJJ)V"⟩ : MethodName)) rfl hown (mvT hZ (hw _ (List.mem_of_getElem? (i := 5) rfl))) (mvT hZ (hw _ (List.mem_of_getElem? (i := 6) rfl))) (mvT hZ (hw _ (List.mem_of_getElem? (i := 7) rfl))) (by decide) (backOf (W := 1) (own_rmuwi l Z aw hw [] b211 0 1 0 h211 n0 Z211 A211 gn_b211 F211_startS_b211 F211_endS_b211 F211_orbit_b211) hZ (hw _ (List.mem_of_getElem? (i := 7) rfl)) (hw _ (List.mem_of_getElem? (i := 4) rfl)) (by decide) (by decide)) (g := (mkF m 30 #[.val (.int q1), .val (.int q2), .val (.int q3), .val (.int q4), .val (.int ci), .val (.int u), .val (.int t1), .val (.int t2), .unset, .unset, .unset, .unset, .unset, .unset, .unset, .unset, .unset, .unset, .unset, .unset, .unset, .unset, .unset] [(.long (0 : Int64)), (.long (1 : Int64)), (.long (0 : Int64)), (.ref b211), (.ref b211)])) rfl (by rw [hml]; rfl) (Steps.refl _) (a := b211) (argsL := [(.long (0 : Int64)), (.long (1 : Int64)), (.long (0 : Int64))]) (rest := [(.ref b211)]) (lenOf own_pd20 rfl) rfl (by show 2 * 0 + _ ≤ _; exact Nat.le_of_eq rfl) (hb hby at_30) (fun _ _ => ⟨rfl, e211, (by decide : 1 + 0 ≤ _), (by decide : 3 + 0 ≤ _)⟩)
    dsimp only [Pt.U, Pt.locs, Pt.cells, Pt.slots] at X212 l212 y212 z212 st212 hQ212
    subst l212 y212 z212
    obtain ⟨rfl, N212q, Kp212, Xp212⟩ := hQ212
    have N212 := Fr.app N0 N212q
    refine own_by (fun t k => st212.trans k) ?_
    have Ex212_b211 := A211.keep Kp212
    have Z212 := Nat.le_trans Z211 Kp212.1
    have O212 := O211.keep Kp212 (allS gn_b211 (all0))
    show own_Go p.tables e below K (T212.setTop (mkF m 33 #[.val (.int q1), .val (.int q2), .val (.int q3), .val (.int q4), .val (.int ci), .val (.int u), .val (.int t1), .val (.int t2), .unset, .unset, .unset, .unset, .unset, .unset, .unset, .unset, .unset, .unset, .unset, .unset, .unset, .unset, .unset] [(.ref b211)]))
    refine own_by (fun t k => XS.astore X212.here hx rfl (hb hby at_33) rfl rfl (l' := #[.val (.int q1), .val (.int q2), .val (.int q3), .val (.int q4), .val (.int ci), .val (.int u), .val (.int t1), .val (.int t2), .val (.ref b211), .unset, .unset, .unset, .unset, .unset, .unset, .unset, .unset, .unset, .unset, .unset, .unset, .unset, .unset]) rfl k) ?_
    show own_Go p.tables e below K (T212.setTop (mkF m 35 #[.val (.int q1), .val (.int q2), .val (.int q3), .val (.int q4), .val (.int ci), .val (.int u), .val (.int t1), .val (.int t2), .val (.ref b211), .unset, .unset, .unset, .unset, .unset, .unset, .unset, .unset, .unset, .unset, .unset, .unset, .unset, .unset] []))
    obtain ⟨T213, h213, X213, e213, E213, A213, D213, -, st213⟩ := newO X212 hx hZ hown (hw _ (List.mem_of_getElem? (i := 22) rfl)) (hw _ (List.mem_of_getElem? (i := 23) rfl)) (hw _ (List.mem_of_getElem? (i := 24) rfl)) rfl (g := (mkF m 35 #[.val (.int q1), .val (.int q2), .val (.int q3), .val (.int q4), .val (.int ci), .val (.int u), .val (.int t1), .val (.int t2), .val (.ref b211), .unset, .unset, .unset, .unset, .unset, .unset, .unset, .unset, .unset, .unset, .unset, .unset, .unset, .unset] [])) rfl (hb hby at_35) (by decide) (by decide)
    obtain ⟨b213, g213⟩ : ∃ z, z = T212.heap.size := ⟨_, rfl⟩
    rw [← g213] at A213 D213 st213
    refine own_by st213 ?_
    have gn_b213 : n0 ≤ b213 := Nat.le_trans Z212 (Nat.le_of_eq g213.symm)
    have ne_b211_b213 : b211 ≠ b213 := Nat.ne_of_lt (Nat.lt_of_lt_of_le Xp212.lt (Nat.le_of_eq g213.symm))
    have Ex213_b211 := Xp212.ext E213
    have Z213 := Nat.le_trans Z212 E213.1
    have O213 := O212.ext E213
    have F213_modCount_b213 : Fld Z h213 b213 "java/util/AbstractList" "modCount" "I" (.int (0 : Int32)) := D213 (Or.inl (hw _ (List.mem_of_getElem? (i := 42) rfl))) (ty := .int) (by decide)
    have F213_elementData_b213 : Fld Z h213 b213 "java/util/ArrayList" "elementData" "[Ljava/lang/Object;" .null := D213 (Or.inl (hw _ (List.mem_of_getElem? (i := 45) rfl))) (ty := (.array (.object "java/lang/Object"))) (by decide)
    have F213_size_b213 : Fld Z h213 b213 "java/util/ArrayList" "size" "I" (.int (0 : Int32)) := D213 (Or.inl (hw _ (List.mem_of_getElem? (i := 54) rfl))) (ty := .int) (by decide)
    show own_Go p.tables e below K (T213.setTop (mkF m 38 #[.val (.int q1), .val (.int q2), .val (.int q3), .val (.int q4), .val (.int ci), .val (.int u), .val (.int t1), .val (.int t2), .val (.ref b211), .unset, .unset, .unset, .unset, .unset, .unset, .unset, .unset, .unset, .unset, .unset, .unset, .unset, .unset] [(.ref b213)]))
    refine own_by (fun t k => XS.dup X213.here hx rfl (hb hby at_38) rfl rfl k) ?_
    show own_Go p.tables e below K (T213.setTop (mkF m 39 #[.val (.int q1), .val (.int q2), .val (.int q3), .val (.int q4), .val (.int ci), .val (.int u), .val (.int t1), .val (.int t2), .val (.ref b211), .unset, .unset, .unset, .unset, .unset, .unset, .unset, .unset, .unset, .unset, .unset, .unset, .unset, .unset] [(.ref b213), (.ref b213)]))
    obtain ⟨_, _, ⟨T214, L214, k214, n214⟩, -, X214, ⟨Lc214, hQ214, l214, y214, z214⟩, st214⟩ := X213.specialBack hx (y := (⟨"java/util/ArrayList", "<init>", "()V"⟩ : MethodName)) rfl hown (mvT hZ (hw _ (List.mem_of_getElem? (i := 25) rfl))) (mvT hZ (hw _ (List.mem_of_getElem? (i := 26) rfl))) (mvT hZ (hw _ (List.mem_of_getElem? (i := 27) rfl))) (by decide) (backOf (W := 1) (own_rmaln l Z aw hw [] b213 dd lz ez em mr h213 n0 Z213 A213 gn_b213 F213_modCount_b213 F213_elementData_b213 F213_size_b213 O213 S0) hZ (hw _ (List.mem_of_getElem? (i := 27) rfl)) (hw _ (List.mem_of_getElem? (i := 24) rfl)) (by decide) (by decide)) (g := (mkF m 39 #[.val (.int q1), .val (.int q2), .val (.int q3), .val (.int q4), .val (.int ci), .val (.int u), .val (.int t1), .val (.int t2), .val (.ref b211), .unset, .unset, .unset, .unset, .unset, .unset, .unset, .unset, .unset, .unset, .unset, .unset, .unset, .unset] [(.ref b213), (.ref b213)])) rfl (by rw [hml]; rfl) (Steps.refl _) (a := b213) (argsL := []) (rest := [(.ref b213)]) (lenOf own_pd0 rfl) rfl (by show 2 * 0 + _ ≤ _; exact Nat.le_of_eq rfl) (hb hby at_39) (fun _ _ => ⟨rfl, e213, (by decide : 2 + 0 ≤ _), (by decide : 6 + 0 ≤ _)⟩)
    dsimp only [Pt.U, Pt.locs, Pt.cells, Pt.slots] at X214 l214 y214 z214 st214 hQ214
    subst l214 y214 z214
    obtain ⟨rfl, N214q, Kp214, Bp214⟩ := hQ214
    have N214 := Fr.app N212 N214q
    refine own_by (fun t k => st214.trans k) ?_
    have Ex214_b211 := Ex213_b211.keep Kp214
    have Ex214_b213 := A213.keep Kp214
    have Z214 := Nat.le_trans Z213 Kp214.1
    have O214 := O213.keep Kp214 (allS gn_b213 (all0))
    show own_Go p.tables e below K (T214.setTop (mkF m 42 #[.val (.int q1), .val (.int q2), .val (.int q3), .val (.int q4), .val (.int ci), .val (.int u), .val (.int t1), .val (.int t2), .val (.ref b211), .unset, .unset, .unset, .unset, .unset, .unset, .unset, .unset, .unset, .unset, .unset, .unset, .unset, .unset] [(.ref b213)]))
    refine own_by (fun t k => XS.astore X214.here hx rfl (hb hby at_42) rfl rfl (l' := #[.val (.int q1), .val (.int q2), .val (.int q3), .val (.int q4), .val (.int ci), .val (.int u), .val (.int t1), .val (.int t2), .val (.ref b211), .val (.ref b213), .unset, .unset, .unset, .unset, .unset, .unset, .unset, .unset, .unset, .unset, .unset, .unset, .unset]) rfl k) ?_
    rcases hu with rfl | rfl | rfl | rfl
    · show own_Go p.tables e below K (T214.setTop (mkF m 44 #[.val (.int q1), .val (.int q2), .val (.int q3), .val (.int q4), .val (.int ci), .val (.int (0 : Int32)), .val (.int t1), .val (.int t2), .val (.ref b211), .val (.ref b213), .unset, .unset, .unset, .unset, .unset, .unset, .unset, .unset, .unset, .unset, .unset, .unset, .unset] []))
      refine own_by (fun t k => XS.iload X214.here hx rfl (hb hby at_44) rfl k) ?_
      show own_Go p.tables e below K (T214.setTop (mkF m 46 #[.val (.int q1), .val (.int q2), .val (.int q3), .val (.int q4), .val (.int ci), .val (.int (0 : Int32)), .val (.int t1), .val (.int t2), .val (.ref b211), .val (.ref b213), .unset, .unset, .unset, .unset, .unset, .unset, .unset, .unset, .unset, .unset, .unset, .unset, .unset] [(.int (0 : Int32))]))
      refine own_by (fun t k => XS.iconst X214.here hx rfl (hb hby at_46) k) ?_
      show own_Go p.tables e below K (T214.setTop (mkF m 47 #[.val (.int q1), .val (.int q2), .val (.int q3), .val (.int q4), .val (.int ci), .val (.int (0 : Int32)), .val (.int t1), .val (.int t2), .val (.ref b211), .val (.ref b213), .unset, .unset, .unset, .unset, .unset, .unset, .unset, .unset, .unset, .unset, .unset, .unset, .unset] [(.int (1 : Int32)), (.int (0 : Int32))]))
      have hc47 : (0 : Int32) < (1 : Int32) := by decide
      refine own_by (fun t k => XS.icmpYes X214.here hx rfl (pc0 := 47) (pc' := 58) rfl (hb hby at_47) rfl (tlt hc47).1 (by decide) (by decide) k) ?_
      show own_Go p.tables e below K (T214.setTop (mkF m 58 #[.val (.int q1), .val (.int q2), .val (.int q3), .val (.int q4), .val (.int ci), .val (.int (0 : Int32)), .val (.int t1), .val (.int t2), .val (.ref b211), .val (.ref b213), .unset, .unset, .unset, .unset, .unset, .unset, .unset, .unset, .unset, .unset, .unset, .unset, .unset] []))
      refine own_by (fun t k => XS.iload X214.here hx rfl (hb hby at_58) rfl k) ?_
      show own_Go p.tables e below K (T214.setTop (mkF m 60 #[.val (.int q1), .val (.int q2), .val (.int q3), .val (.int q4), .val (.int ci), .val (.int (0 : Int32)), .val (.int t1), .val (.int t2), .val (.ref b211), .val (.ref b213), .unset, .unset, .unset, .unset, .unset, .unset, .unset, .unset, .unset, .unset, .unset, .unset, .unset] [(.int (0 : Int32))]))
      refine own_by (fun t k => XS.iconst X214.here hx rfl (hb hby at_60) k) ?_
      show own_Go p.tables e below K (T214.setTop (mkF m 61 #[.val (.int q1), .val (.int q2), .val (.int q3), .val (.int q4), .val (.int ci), .val (.int (0 : Int32)), .val (.int t1), .val (.int t2), .val (.ref b211), .val (.ref b213), .unset, .unset, .unset, .unset, .unset, .unset, .unset, .unset, .unset, .unset, .unset, .unset, .unset] [(.int (2 : Int32)), (.int (0 : Int32))]))
      have hc61 : (0 : Int32) < (2 : Int32) := by decide
      refine own_by (fun t k => XS.icmpYes X214.here hx rfl (pc0 := 61) (pc' := 72) rfl (hb hby at_61) rfl (tlt hc61).1 (by decide) (by decide) k) ?_
      show own_Go p.tables e below K (T214.setTop (mkF m 72 #[.val (.int q1), .val (.int q2), .val (.int q3), .val (.int q4), .val (.int ci), .val (.int (0 : Int32)), .val (.int t1), .val (.int t2), .val (.ref b211), .val (.ref b213), .unset, .unset, .unset, .unset, .unset, .unset, .unset, .unset, .unset, .unset, .unset, .unset, .unset] []))
      refine own_by (fun t k => XS.iload X214.here hx rfl (hb hby at_72) rfl k) ?_
      show own_Go p.tables e below K (T214.setTop (mkF m 74 #[.val (.int q1), .val (.int q2), .val (.int q3), .val (.int q4), .val (.int ci), .val (.int (0 : Int32)), .val (.int t1), .val (.int t2), .val (.ref b211), .val (.ref b213), .unset, .unset, .unset, .unset, .unset, .unset, .unset, .unset, .unset, .unset, .unset, .unset, .unset] [(.int (0 : Int32))]))
      refine own_by (fun t k => XS.iconst X214.here hx rfl (hb hby at_74) k) ?_
      show own_Go p.tables e below K (T214.setTop (mkF m 75 #[.val (.int q1), .val (.int q2), .val (.int q3), .val (.int q4), .val (.int ci), .val (.int (0 : Int32)), .val (.int t1), .val (.int t2), .val (.ref b211), .val (.ref b213), .unset, .unset, .unset, .unset, .unset, .unset, .unset, .unset, .unset, .unset, .unset, .unset, .unset] [(.int (3 : Int32)), (.int (0 : Int32))]))
      have hc75 : (0 : Int32) < (3 : Int32) := by decide
      refine own_by (fun t k => XS.icmpYes X214.here hx rfl (pc0 := 75) (pc' := 86) rfl (hb hby at_75) rfl (tlt hc75).1 (by decide) (by decide) k) ?_
      exact J86 _ _ _ b211 b213 dd _ (own_more X214 (by decide) (by decide)) N214 Z214 O214 (Or.inl rfl) gn_b213 ⟨Bp214.1, Bp214.2.1, Bp214.2.2.1, Bp214.2.2.2⟩ (Or.inl ⟨rfl, S0.2.1.ext O214.2⟩)
    · show own_Go p.tables e below K (T214.setTop (mkF m 44 #[.val (.int q1), .val (.int q2), .val (.int q3), .val (.int q4), .val (.int ci), .val (.int (1 : Int32)), .val (.int t1), .val (.int t2), .val (.ref b211), .val (.ref b213), .unset, .unset, .unset, .unset, .unset, .unset, .unset, .unset, .unset, .unset, .unset, .unset, .unset] []))
      refine own_by (fun t k => XS.iload X214.here hx rfl (hb hby at_44) rfl k) ?_
      show own_Go p.tables e below K (T214.setTop (mkF m 46 #[.val (.int q1), .val (.int q2), .val (.int q3), .val (.int q4), .val (.int ci), .val (.int (1 : Int32)), .val (.int t1), .val (.int t2), .val (.ref b211), .val (.ref b213), .unset, .unset, .unset, .unset, .unset, .unset, .unset, .unset, .unset, .unset, .unset, .unset, .unset] [(.int (1 : Int32))]))
      refine own_by (fun t k => XS.iconst X214.here hx rfl (hb hby at_46) k) ?_
      show own_Go p.tables e below K (T214.setTop (mkF m 47 #[.val (.int q1), .val (.int q2), .val (.int q3), .val (.int q4), .val (.int ci), .val (.int (1 : Int32)), .val (.int t1), .val (.int t2), .val (.ref b211), .val (.ref b213), .unset, .unset, .unset, .unset, .unset, .unset, .unset, .unset, .unset, .unset, .unset, .unset, .unset] [(.int (1 : Int32)), (.int (1 : Int32))]))
      have hc47 : ¬ ((1 : Int32) < (1 : Int32)) := by decide
      refine own_by (fun t k => XS.icmpNo X214.here hx rfl (hb hby at_47) rfl (flt hc47).1 k) ?_
      show own_Go p.tables e below K (T214.setTop (mkF m 50 #[.val (.int q1), .val (.int q2), .val (.int q3), .val (.int q4), .val (.int ci), .val (.int (1 : Int32)), .val (.int t1), .val (.int t2), .val (.ref b211), .val (.ref b213), .unset, .unset, .unset, .unset, .unset, .unset, .unset, .unset, .unset, .unset, .unset, .unset, .unset] []))
      refine own_by (fun t k => XS.aload X214.here hx rfl (hb hby at_50) rfl rfl k) ?_
      show own_Go p.tables e below K (T214.setTop (mkF m 52 #[.val (.int q1), .val (.int q2), .val (.int q3), .val (.int q4), .val (.int ci), .val (.int (1 : Int32)), .val (.int t1), .val (.int t2), .val (.ref b211), .val (.ref b213), .unset, .unset, .unset, .unset, .unset, .unset, .unset, .unset, .unset, .unset, .unset, .unset, .unset] [(.ref b213)]))
      refine own_by (fun t k => XS.aload X214.here hx rfl (hb hby at_52) rfl rfl k) ?_
      show own_Go p.tables e below K (T214.setTop (mkF m 54 #[.val (.int q1), .val (.int q2), .val (.int q3), .val (.int q4), .val (.int ci), .val (.int (1 : Int32)), .val (.int t1), .val (.int t2), .val (.ref b211), .val (.ref b213), .unset, .unset, .unset, .unset, .unset, .unset, .unset, .unset, .unset, .unset, .unset, .unset, .unset] [(.ref b211), (.ref b213)]))
      obtain ⟨cq215, kq215, q215a, q215b, q215c⟩ := isOf hZ rfl Bp214.1
      obtain ⟨_, _, ⟨T215, L215, k215, n215⟩, -, X215, ⟨Lc215, hQ215, l215, y215, z215⟩, st215⟩ := X214.virtualBack hx (y := (⟨"java/util/ArrayList", "add", "(Ljava/lang/Object;)Z"⟩ : MethodName)) (z := (⟨"java/util/ArrayList", "add", "(Ljava/lang/Object;)Z"⟩ : MethodName)) hown (mvT hZ (hw _ (List.mem_of_getElem? (i := 46) rfl))) (mvT hZ (hw _ (List.mem_of_getElem? (i := 47) rfl))) (notFace_of_selects (args := #[]) (mvT hZ (hw _ (List.mem_of_getElem? (i := 49) rfl)))) (mvT hZ (hw _ (List.mem_of_getElem? (i := 49) rfl))) (mvT hZ (hw _ (List.mem_of_getElem? (i := 48) rfl))) (by decide) (backOf (W := 0) (own_rmadd0 l Z aw hw [] b213 b211 (0 : Int32) dd lz ez em mr T214.heap n0 Z214 ⟨Bp214.1, Bp214.2.1, Bp214.2.2.1, Bp214.2.2.2⟩ Ex214_b211 gn_b213 O214 S0) hZ (hw _ (List.mem_of_getElem? (i := 50) rfl)) (hw _ (List.mem_of_getElem? (i := 24) rfl)) (by decide) (by decide)) q215a q215c (g := (mkF m 54 #[.val (.int q1), .val (.int q2), .val (.int q3), .val (.int q4), .val (.int ci), .val (.int (1 : Int32)), .val (.int t1), .val (.int t2), .val (.ref b211), .val (.ref b213), .unset, .unset, .unset, .unset, .unset, .unset, .unset, .unset, .unset, .unset, .unset, .unset, .unset] [(.ref b211), (.ref b213)])) rfl (by rw [hml]; rfl) (Steps.refl _) (argsL := [(.ref b211)]) (rest := []) (lenOf own_pd21 rfl) rfl (by show 2 * 0 + _ ≤ _; exact Nat.le_of_eq rfl) (hb hby at_54) (fun _ _ => ⟨rfl, rfl, (by decide : 2 + 1 ≤ _), (by decide : 6 + 10 ≤ _)⟩)
      dsimp only [Pt.U, Pt.locs, Pt.cells, Pt.slots] at X215 l215 y215 z215 st215 hQ215
      subst l215 y215 z215
      obtain ⟨el215, k215c, rfl, N215q, Kp215, gp215, Bp215, Ap215⟩ := hQ215
      have N215 := Fr.app N214 N215q
      refine own_by (fun t k => st215.trans k) ?_
      have Ex215_b211 := Ex214_b211.keep Kp215
      have Ex215_b213 := Bp214.1.keep Kp215
      have Z215 := Nat.le_trans Z214 Kp215.1
      have O215 := O214.keep Kp215 (allS gn_b213 (all0))
      show own_Go p.tables e below K (T215.setTop (mkF m 57 #[.val (.int q1), .val (.int q2), .val (.int q3), .val (.int q4), .val (.int ci), .val (.int (1 : Int32)), .val (.int t1), .val (.int t2), .val (.ref b211), .val (.ref b213), .unset, .unset, .unset, .unset, .unset, .unset, .unset, .unset, .unset, .unset, .unset, .unset, .unset] [(.int (1 : Int32))]))
      refine own_by (fun t k => XS.pop X215.here hx rfl (hb hby at_57) rfl rfl k) ?_
      show own_Go p.tables e below K (T215.setTop (mkF m 58 #[.val (.int q1), .val (.int q2), .val (.int q3), .val (.int q4), .val (.int ci), .val (.int (1 : Int32)), .val (.int t1), .val (.int t2), .val (.ref b211), .val (.ref b213), .unset, .unset, .unset, .unset, .unset, .unset, .unset, .unset, .unset, .unset, .unset, .unset, .unset] []))
      refine own_by (fun t k => XS.iload X215.here hx rfl (hb hby at_58) rfl k) ?_
      show own_Go p.tables e below K (T215.setTop (mkF m 60 #[.val (.int q1), .val (.int q2), .val (.int q3), .val (.int q4), .val (.int ci), .val (.int (1 : Int32)), .val (.int t1), .val (.int t2), .val (.ref b211), .val (.ref b213), .unset, .unset, .unset, .unset, .unset, .unset, .unset, .unset, .unset, .unset, .unset, .unset, .unset] [(.int (1 : Int32))]))
      refine own_by (fun t k => XS.iconst X215.here hx rfl (hb hby at_60) k) ?_
      show own_Go p.tables e below K (T215.setTop (mkF m 61 #[.val (.int q1), .val (.int q2), .val (.int q3), .val (.int q4), .val (.int ci), .val (.int (1 : Int32)), .val (.int t1), .val (.int t2), .val (.ref b211), .val (.ref b213), .unset, .unset, .unset, .unset, .unset, .unset, .unset, .unset, .unset, .unset, .unset, .unset, .unset] [(.int (2 : Int32)), (.int (1 : Int32))]))
      have hc61 : (1 : Int32) < (2 : Int32) := by decide
      refine own_by (fun t k => XS.icmpYes X215.here hx rfl (pc0 := 61) (pc' := 72) rfl (hb hby at_61) rfl (tlt hc61).1 (by decide) (by decide) k) ?_
      show own_Go p.tables e below K (T215.setTop (mkF m 72 #[.val (.int q1), .val (.int q2), .val (.int q3), .val (.int q4), .val (.int ci), .val (.int (1 : Int32)), .val (.int t1), .val (.int t2), .val (.ref b211), .val (.ref b213), .unset, .unset, .unset, .unset, .unset, .unset, .unset, .unset, .unset, .unset, .unset, .unset, .unset] []))
      refine own_by (fun t k => XS.iload X215.here hx rfl (hb hby at_72) rfl k) ?_
      show own_Go p.tables e below K (T215.setTop (mkF m 74 #[.val (.int q1), .val (.int q2), .val (.int q3), .val (.int q4), .val (.int ci), .val (.int (1 : Int32)), .val (.int t1), .val (.int t2), .val (.ref b211), .val (.ref b213), .unset, .unset, .unset, .unset, .unset, .unset, .unset, .unset, .unset, .unset, .unset, .unset, .unset] [(.int (1 : Int32))]))
      refine own_by (fun t k => XS.iconst X215.here hx rfl (hb hby at_74) k) ?_
      show own_Go p.tables e below K (T215.setTop (mkF m 75 #[.val (.int q1), .val (.int q2), .val (.int q3), .val (.int q4), .val (.int ci), .val (.int (1 : Int32)), .val (.int t1), .val (.int t2), .val (.ref b211), .val (.ref b213), .unset, .unset, .unset, .unset, .unset, .unset, .unset, .unset, .unset, .unset, .unset, .unset, .unset] [(.int (3 : Int32)), (.int (1 : Int32))]))
      have hc75 : (1 : Int32) < (3 : Int32) := by decide
      refine own_by (fun t k => XS.icmpYes X215.here hx rfl (pc0 := 75) (pc' := 86) rfl (hb hby at_75) rfl (tlt hc75).1 (by decide) (by decide) k) ?_
      exact J86 _ _ _ b211 b213 el215 _ (own_more X215 (by decide) (by decide)) N215 Z215 O215 (Or.inr (Or.inl rfl)) gn_b213 ⟨Bp215.1, Bp215.2.1, Bp215.2.2.1, Bp215.2.2.2⟩ (Or.inr (Or.inl ⟨rfl, _, Ap215, Ex215_b211⟩))
    · show own_Go p.tables e below K (T214.setTop (mkF m 44 #[.val (.int q1), .val (.int q2), .val (.int q3), .val (.int q4), .val (.int ci), .val (.int (2 : Int32)), .val (.int t1), .val (.int t2), .val (.ref b211), .val (.ref b213), .unset, .unset, .unset, .unset, .unset, .unset, .unset, .unset, .unset, .unset, .unset, .unset, .unset] []))
      refine own_by (fun t k => XS.iload X214.here hx rfl (hb hby at_44) rfl k) ?_
      show own_Go p.tables e below K (T214.setTop (mkF m 46 #[.val (.int q1), .val (.int q2), .val (.int q3), .val (.int q4), .val (.int ci), .val (.int (2 : Int32)), .val (.int t1), .val (.int t2), .val (.ref b211), .val (.ref b213), .unset, .unset, .unset, .unset, .unset, .unset, .unset, .unset, .unset, .unset, .unset, .unset, .unset] [(.int (2 : Int32))]))
      refine own_by (fun t k => XS.iconst X214.here hx rfl (hb hby at_46) k) ?_
      show own_Go p.tables e below K (T214.setTop (mkF m 47 #[.val (.int q1), .val (.int q2), .val (.int q3), .val (.int q4), .val (.int ci), .val (.int (2 : Int32)), .val (.int t1), .val (.int t2), .val (.ref b211), .val (.ref b213), .unset, .unset, .unset, .unset, .unset, .unset, .unset, .unset, .unset, .unset, .unset, .unset, .unset] [(.int (1 : Int32)), (.int (2 : Int32))]))
      have hc47 : ¬ ((2 : Int32) < (1 : Int32)) := by decide
      refine own_by (fun t k => XS.icmpNo X214.here hx rfl (hb hby at_47) rfl (flt hc47).1 k) ?_
      show own_Go p.tables e below K (T214.setTop (mkF m 50 #[.val (.int q1), .val (.int q2), .val (.int q3), .val (.int q4), .val (.int ci), .val (.int (2 : Int32)), .val (.int t1), .val (.int t2), .val (.ref b211), .val (.ref b213), .unset, .unset, .unset, .unset, .unset, .unset, .unset, .unset, .unset, .unset, .unset, .unset, .unset] []))
      refine own_by (fun t k => XS.aload X214.here hx rfl (hb hby at_50) rfl rfl k) ?_
      show own_Go p.tables e below K (T214.setTop (mkF m 52 #[.val (.int q1), .val (.int q2), .val (.int q3), .val (.int q4), .val (.int ci), .val (.int (2 : Int32)), .val (.int t1), .val (.int t2), .val (.ref b211), .val (.ref b213), .unset, .unset, .unset, .unset, .unset, .unset, .unset, .unset, .unset, .unset, .unset, .unset, .unset] [(.ref b213)]))
      refine own_by (fun t k => XS.aload X214.here hx rfl (hb hby at_52) rfl rfl k) ?_
      show own_Go p.tables e below K (T214.setTop (mkF m 54 #[.val (.int q1), .val (.int q2), .val (.int q3), .val (.int q4), .val (.int ci), .val (.int (2 : Int32)), .val (.int t1), .val (.int t2), .val (.ref b211), .val (.ref b213), .unset, .unset, .unset, .unset, .unset, .unset, .unset, .unset, .unset, .unset, .unset, .unset, .unset] [(.ref b211), (.ref b213)]))
      obtain ⟨cq216, kq216, q216a, q216b, q216c⟩ := isOf hZ rfl Bp214.1
      obtain ⟨_, _, ⟨T216, L216, k216, n216⟩, -, X216, ⟨Lc216, hQ216, l216, y216, z216⟩, st216⟩ := X214.virtualBack hx (y := (⟨"java/util/ArrayList", "add", "(Ljava/lang/Object;)Z"⟩ : MethodName)) (z := (⟨"java/util/ArrayList", "add", "(Ljava/lang/Object;)Z"⟩ : MethodName)) hown (mvT hZ (hw _ (List.mem_of_getElem? (i := 46) rfl))) (mvT hZ (hw _ (List.mem_of_getElem? (i := 47) rfl))) (notFace_of_selects (args := #[]) (mvT hZ (hw _ (List.mem_of_getElem? (i := 49) rfl)))) (mvT hZ (hw _ (List.mem_of_getElem? (i := 49) rfl))) (mvT hZ (hw _ (List.mem_of_getElem? (i := 48) rfl))) (by decide) (backOf (W := 0) (own_rmadd0 l Z aw hw [] b213 b211 (0 : Int32) dd lz ez em mr T214.heap n0 Z214 ⟨Bp214.1, Bp214.2.1, Bp214.2.2.1, Bp214.2.2.2⟩ Ex214_b211 gn_b213 O214 S0) hZ (hw _ (List.mem_of_getElem? (i := 50) rfl)) (hw _ (List.mem_of_getElem? (i := 24) rfl)) (by decide) (by decide)) q216a q216c (g := (mkF m 54 #[.val (.int q1), .val (.int q2), .val (.int q3), .val (.int q4), .val (.int ci), .val (.int (2 : Int32)), .val (.int t1), .val (.int t2), .val (.ref b211), .val (.ref b213), .unset, .unset, .unset, .unset, .unset, .unset, .unset, .unset, .unset, .unset, .unset, .unset, .unset] [(.ref b211), (.ref b213)])) rfl (by rw [hml]; rfl) (Steps.refl _) (argsL := [(.ref b211)]) (rest := []) (lenOf own_pd21 rfl) rfl (by show 2 * 0 + _ ≤ _; exact Nat.le_of_eq rfl) (hb hby at_54) (fun _ _ => ⟨rfl, rfl, (by decide : 2 + 1 ≤ _), (by decide : 6 + 10 ≤ _)⟩)
      dsimp only [Pt.U, Pt.locs, Pt.cells, Pt.slots] at X216 l216 y216 z216 st216 hQ216
      subst l216 y216 z216
      obtain ⟨el216, k216c, rfl, N216q, Kp216, gp216, Bp216, Ap216⟩ := hQ216
      have N216 := Fr.app N214 N216q
      refine own_by (fun t k => st216.trans k) ?_
      have Ex216_b211 := Ex214_b211.keep Kp216
      have Ex216_b213 := Bp214.1.keep Kp216
      have Z216 := Nat.le_trans Z214 Kp216.1
      have O216 := O214.keep Kp216 (allS gn_b213 (all0))
      show own_Go p.tables e below K (T216.setTop (mkF m 57 #[.val (.int q1), .val (.int q2), .val (.int q3), .val (.int q4), .val (.int ci), .val (.int (2 : Int32)), .val (.int t1), .val (.int t2), .val (.ref b211), .val (.ref b213), .unset, .unset, .unset, .unset, .unset, .unset, .unset, .unset, .unset, .unset, .unset, .unset, .unset] [(.int (1 : Int32))]))
      refine own_by (fun t k => XS.pop X216.here hx rfl (hb hby at_57) rfl rfl k) ?_
      show own_Go p.tables e below K (T216.setTop (mkF m 58 #[.val (.int q1), .val (.int q2), .val (.int q3), .val (.int q4), .val (.int ci), .val (.int (2 : Int32)), .val (.int t1), .val (.int t2), .val (.ref b211), .val (.ref b213), .unset, .unset, .unset, .unset, .unset, .unset, .unset, .unset, .unset, .unset, .unset, .unset, .unset] []))
      refine own_by (fun t k => XS.iload X216.here hx rfl (hb hby at_58) rfl k) ?_
      show own_Go p.tables e below K (T216.setTop (mkF m 60 #[.val (.int q1), .val (.int q2), .val (.int q3), .val (.int q4), .val (.int ci), .val (.int (2 : Int32)), .val (.int t1), .val (.int t2), .val (.ref b211), .val (.ref b213), .unset, .unset, .unset, .unset, .unset, .unset, .unset, .unset, .unset, .unset, .unset, .unset, .unset] [(.int (2 : Int32))]))
      refine own_by (fun t k => XS.iconst X216.here hx rfl (hb hby at_60) k) ?_
      show own_Go p.tables e below K (T216.setTop (mkF m 61 #[.val (.int q1), .val (.int q2), .val (.int q3), .val (.int q4), .val (.int ci), .val (.int (2 : Int32)), .val (.int t1), .val (.int t2), .val (.ref b211), .val (.ref b213), .unset, .unset, .unset, .unset, .unset, .unset, .unset, .unset, .unset, .unset, .unset, .unset, .unset] [(.int (2 : Int32)), (.int (2 : Int32))]))
      have hc61 : ¬ ((2 : Int32) < (2 : Int32)) := by decide
      refine own_by (fun t k => XS.icmpNo X216.here hx rfl (hb hby at_61) rfl (flt hc61).1 k) ?_
      show own_Go p.tables e below K (T216.setTop (mkF m 64 #[.val (.int q1), .val (.int q2), .val (.int q3), .val (.int q4), .val (.int ci), .val (.int (2 : Int32)), .val (.int t1), .val (.int t2), .val (.ref b211), .val (.ref b213), .unset, .unset, .unset, .unset, .unset, .unset, .unset, .unset, .unset, .unset, .unset, .unset, .unset] []))
      refine own_by (fun t k => XS.aload X216.here hx rfl (hb hby at_64) rfl rfl k) ?_
      show own_Go p.tables e below K (T216.setTop (mkF m 66 #[.val (.int q1), .val (.int q2), .val (.int q3), .val (.int q4), .val (.int ci), .val (.int (2 : Int32)), .val (.int t1), .val (.int t2), .val (.ref b211), .val (.ref b213), .unset, .unset, .unset, .unset, .unset, .unset, .unset, .unset, .unset, .unset, .unset, .unset, .unset] [(.ref b213)]))
      refine own_by (fun t k => XS.aload X216.here hx rfl (hb hby at_66) rfl rfl k) ?_
      show own_Go p.tables e below K (T216.setTop (mkF m 68 #[.val (.int q1), .val (.int q2), .val (.int q3), .val (.int q4), .val (.int ci), .val (.int (2 : Int32)), .val (.int t1), .val (.int t2), .val (.ref b211), .val (.ref b213), .unset, .unset, .unset, .unset, .unset, .unset, .unset, .unset, .unset, .unset, .unset, .unset, .unset] [(.ref b211), (.ref b213)]))
      obtain ⟨cq217, kq217, q217a, q217b, q217c⟩ := isOf hZ rfl Bp216.1
      obtain ⟨_, _, ⟨T217, L217, k217, n217⟩, -, X217, ⟨Lc217, hQ217, l217, y217, z217⟩, st217⟩ := X216.virtualBack hx (y := (⟨"java/util/ArrayList", "add", "(Ljava/lang/Object;)Z"⟩ : MethodName)) (z := (⟨"java/util/ArrayList", "add", "(Ljava/lang/Object;)Z"⟩ : MethodName)) hown (mvT hZ (hw _ (List.mem_of_getElem? (i := 46) rfl))) (mvT hZ (hw _ (List.mem_of_getElem? (i := 47) rfl))) (notFace_of_selects (args := #[]) (mvT hZ (hw _ (List.mem_of_getElem? (i := 49) rfl)))) (mvT hZ (hw _ (List.mem_of_getElem? (i := 49) rfl))) (mvT hZ (hw _ (List.mem_of_getElem? (i := 48) rfl))) (by decide) (backOf (W := 0) (own_rmadd1 l Z aw hw [] b213 b211 ((0 : Int32) + 1) el216 k216c dd lz ez em mr T216.heap n0 Z216 ⟨Bp216.1, Bp216.2.1, Bp216.2.2.1, Bp216.2.2.2⟩ Ex216_b211 gn_b213 Ap216 gp216 O216 S0) hZ (hw _ (List.mem_of_getElem? (i := 50) rfl)) (hw _ (List.mem_of_getElem? (i := 24) rfl)) (by decide) (by decide)) q217a q217c (g := (mkF m 68 #[.val (.int q1), .val (.int q2), .val (.int q3), .val (.int q4), .val (.int ci), .val (.int (2 : Int32)), .val (.int t1), .val (.int t2), .val (.ref b211), .val (.ref b213), .unset, .unset, .unset, .unset, .unset, .unset, .unset, .unset, .unset, .unset, .unset, .unset, .unset] [(.ref b211), (.ref b213)])) rfl (by rw [hml]; rfl) (Steps.refl _) (argsL := [(.ref b211)]) (rest := []) (lenOf own_pd21 rfl) rfl (by show 2 * 0 + _ ≤ _; exact Nat.le_of_eq rfl) (hb hby at_68) (fun _ _ => ⟨rfl, rfl, (by decide : 3 + 1 ≤ _), (by decide : 16 + 10 ≤ _)⟩)
      dsimp only [Pt.U, Pt.locs, Pt.cells, Pt.slots] at X217 l217 y217 z217 st217 hQ217
      subst l217 y217 z217
      obtain ⟨rfl, N217q, Kp217, Bp217, Ap217⟩ := hQ217
      have N217 := Fr.app N216 N217q
      refine own_by (fun t k => st217.trans k) ?_
      have Ex217_b211 := Ex216_b211.keep Kp217
      have Ex217_b213 := Bp216.1.keep Kp217
      have Z217 := Nat.le_trans Z216 Kp217.1
      have O217 := O216.keep Kp217 (allS gn_b213 (allS gp216 (all0)))
      show own_Go p.tables e below K (T217.setTop (mkF m 71 #[.val (.int q1), .val (.int q2), .val (.int q3), .val (.int q4), .val (.int ci), .val (.int (2 : Int32)), .val (.int t1), .val (.int t2), .val (.ref b211), .val (.ref b213), .unset, .unset, .unset, .unset, .unset, .unset, .unset, .unset, .unset, .unset, .unset, .unset, .unset] [(.int (1 : Int32))]))
      refine own_by (fun t k => XS.pop X217.here hx rfl (hb hby at_71) rfl rfl k) ?_
      show own_Go p.tables e below K (T217.setTop (mkF m 72 #[.val (.int q1), .val (.int q2), .val (.int q3), .val (.int q4), .val (.int ci), .val (.int (2 : Int32)), .val (.int t1), .val (.int t2), .val (.ref b211), .val (.ref b213), .unset, .unset, .unset, .unset, .unset, .unset, .unset, .unset, .unset, .unset, .unset, .unset, .unset] []))
      refine own_by (fun t k => XS.iload X217.here hx rfl (hb hby at_72) rfl k) ?_
      show own_Go p.tables e below K (T217.setTop (mkF m 74 #[.val (.int q1), .val (.int q2), .val (.int q3), .val (.int q4), .val (.int ci), .val (.int (2 : Int32)), .val (.int t1), .val (.int t2), .val (.ref b211), .val (.ref b213), .unset, .unset, .unset, .unset, .unset, .unset, .unset, .unset, .unset, .unset, .unset, .unset, .unset] [(.int (2 : Int32))]))
      refine own_by (fun t k => XS.iconst X217.here hx rfl (hb hby at_74) k) ?_
      show own_Go p.tables e below K (T217.setTop (mkF m 75 #[.val (.int q1), .val (.int q2), .val (.int q3), .val (.int q4), .val (.int ci), .val (.int (2 : Int32)), .val (.int t1), .val (.int t2), .val (.ref b211), .val (.ref b213), .unset, .unset, .unset, .unset, .unset, .unset, .unset, .unset, .unset, .unset, .unset, .unset, .unset] [(.int (3 : Int32)), (.int (2 : Int32))]))
      have hc75 : (2 : Int32) < (3 : Int32) := by decide
      refine own_by (fun t k => XS.icmpYes X217.here hx rfl (pc0 := 75) (pc' := 86) rfl (hb hby at_75) rfl (tlt hc75).1 (by decide) (by decide) k) ?_
      exact J86 _ _ _ b211 b213 el216 _ (own_more X217 (by decide) (by decide)) N217 Z217 O217 (Or.inr (Or.inr (Or.inl rfl))) gn_b213 ⟨Bp217.1, Bp217.2.1, Bp217.2.2.1, Bp217.2.2.2⟩ (Or.inr (Or.inr (Or.inl ⟨rfl, _, Ap217, Ex217_b211⟩)))
    · show own_Go p.tables e below K (T214.setTop (mkF m 44 #[.val (.int q1), .val (.int q2), .val (.int q3), .val (.int q4), .val (.int ci), .val (.int (3 : Int32)), .val (.int t1), .val (.int t2), .val (.ref b211), .val (.ref b213), .unset, .unset, .unset, .unset, .unset, .unset, .unset, .unset, .unset, .unset, .unset, .unset, .unset] []))
      refine own_by (fun t k => XS.iload X214.here hx rfl (hb hby at_44) rfl k) ?_
      show own_Go p.tables e below K (T214.setTop (mkF m 46 #[.val (.int q1), .val (.int q2), .val (.int q3), .val (.int q4), .val (.int ci), .val (.int (3 : Int32)), .val (.int t1), .val (.int t2), .val (.ref b211), .val (.ref b213), .unset, .unset, .unset, .unset, .unset, .unset, .unset, .unset, .unset, .unset, .unset, .unset, .unset] [(.int (3 : Int32))]))
      refine own_by (fun t k => XS.iconst X214.here hx rfl (hb hby at_46) k) ?_
      show own_Go p.tables e below K (T214.setTop (mkF m 47 #[.val (.int q1), .val (.int q2), .val (.int q3), .val (.int q4), .val (.int ci), .val (.int (3 : Int32)), .val (.int t1), .val (.int t2), .val (.ref b211), .val (.ref b213), .unset, .unset, .unset, .unset, .unset, .unset, .unset, .unset, .unset, .unset, .unset, .unset, .unset] [(.int (1 : Int32)), (.int (3 : Int32))]))
      have hc47 : ¬ ((3 : Int32) < (1 : Int32)) := by decide
      refine own_by (fun t k => XS.icmpNo X214.here hx rfl (hb hby at_47) rfl (flt hc47).1 k) ?_
      show own_Go p.tables e below K (T214.setTop (mkF m 50 #[.val (.int q1), .val (.int q2), .val (.int q3), .val (.int q4), .val (.int ci), .val (.int (3 : Int32)), .val (.int t1), .val (.int t2), .val (.ref b211), .val (.ref b213), .unset, .unset, .unset, .unset, .unset, .unset, .unset, .unset, .unset, .unset, .unset, .unset, .unset] []))
      refine own_by (fun t k => XS.aload X214.here hx rfl (hb hby at_50) rfl rfl k) ?_
      show own_Go p.tables e below K (T214.setTop (mkF m 52 #[.val (.int q1), .val (.int q2), .val (.int q3), .val (.int q4), .val (.int ci), .val (.int (3 : Int32)), .val (.int t1), .val (.int t2), .val (.ref b211), .val (.ref b213), .unset, .unset, .unset, .unset, .unset, .unset, .unset, .unset, .unset, .unset, .unset, .unset, .unset] [(.ref b213)]))
      refine own_by (fun t k => XS.aload X214.here hx rfl (hb hby at_52) rfl rfl k) ?_
      show own_Go p.tables e below K (T214.setTop (mkF m 54 #[.val (.int q1), .val (.int q2), .val (.int q3), .val (.int q4), .val (.int ci), .val (.int (3 : Int32)), .val (.int t1), .val (.int t2), .val (.ref b211), .val (.ref b213), .unset, .unset, .unset, .unset, .unset, .unset, .unset, .unset, .unset, .unset, .unset, .unset, .unset] [(.ref b211), (.ref b213)]))
      obtain ⟨cq218, kq218, q218a, q218b, q218c⟩ := isOf hZ rfl Bp214.1
      obtain ⟨_, _, ⟨T218, L218, k218, n218⟩, -, X218, ⟨Lc218, hQ218, l218, y218, z218⟩, st218⟩ := X214.virtualBack hx (y := (⟨"java/util/ArrayList", "add", "(Ljava/lang/Object;)Z"⟩ : MethodName)) (z := (⟨"java/util/ArrayList", "add", "(Ljava/lang/Object;)Z"⟩ : MethodName)) hown (mvT hZ (hw _ (List.mem_of_getElem? (i := 46) rfl))) (mvT hZ (hw _ (List.mem_of_getElem? (i := 47) rfl))) (notFace_of_selects (args := #[]) (mvT hZ (hw _ (List.mem_of_getElem? (i := 49) rfl)))) (mvT hZ (hw _ (List.mem_of_getElem? (i := 49) rfl))) (mvT hZ (hw _ (List.mem_of_getElem? (i := 48) rfl))) (by decide) (backOf (W := 0) (own_rmadd0 l Z aw hw [] b213 b211 (0 : Int32) dd lz ez em mr T214.heap n0 Z214 ⟨Bp214.1, Bp214.2.1, Bp214.2.2.1, Bp214.2.2.2⟩ Ex214_b211 gn_b213 O214 S0) hZ (hw _ (List.mem_of_getElem? (i := 50) rfl)) (hw _ (List.mem_of_getElem? (i := 24) rfl)) (by decide) (by decide)) q218a q218c (g := (mkF m 54 #[.val (.int q1), .val (.int q2), .val (.int q3), .val (.int q4), .val (.int ci), .val (.int (3 : Int32)), .val (.int t1), .val (.int t2), .val (.ref b211), .val (.ref b213), .unset, .unset, .unset, .unset, .unset, .unset, .unset, .unset, .unset, .unset, .unset, .unset, .unset] [(.ref b211), (.ref b213)])) rfl (by rw [hml]; rfl) (Steps.refl _) (argsL := [(.ref b211)]) (rest := []) (lenOf own_pd21 rfl) rfl (by show 2 * 0 + _ ≤ _; exact Nat.le_of_eq rfl) (hb hby at_54) (fun _ _ => ⟨rfl, rfl, (by decide : 2 + 1 ≤ _), (by decide : 6 + 10 ≤ _)⟩)
      dsimp only [Pt.U, Pt.locs, Pt.cells, Pt.slots] at X218 l218 y218 z218 st218 hQ218
      subst l218 y218 z218
      obtain ⟨el218, k218c, rfl, N218q, Kp218, gp218, Bp218, Ap218⟩ := hQ218
      have N218 := Fr.app N214 N218q
      refine own_by (fun t k => st218.trans k) ?_
      have Ex218_b211 := Ex214_b211.keep Kp218
      have Ex218_b213 := Bp214.1.keep Kp218
      have Z218 := Nat.le_trans Z214 Kp218.1
      have O218 := O214.keep Kp218 (allS gn_b213 (all0))
      show own_Go p.tables e below K (T218.setTop (mkF m 57 #[.val (.int q1), .val (.int q2), .val (.int q3), .val (.int q4), .val (.int ci), .val (.int (3 : Int32)), .val (.int t1), .val (.int t2), .val (.ref b211), .val (.ref b213), .unset, .unset, .unset, .unset, .unset, .unset, .unset, .unset, .unset, .unset, .unset, .unset, .unset] [(.int (1 : Int32))]))
      refine own_by (fun t k => XS.pop X218.here hx rfl (hb hby at_57) rfl rfl k) ?_
      show own_Go p.tables e below K (T218.setTop (mkF m 58 #[.val (.int q1), .val (.int q2), .val (.int q3), .val (.int q4), .val (.int ci), .val (.int (3 : Int32)), .val (.int t1), .val (.int t2), .val (.ref b211), .val (.ref b213), .unset, .unset, .unset, .unset, .unset, .unset, .unset, .unset, .unset, .unset, .unset, .unset, .unset] []))
      refine own_by (fun t k => XS.iload X218.here hx rfl (hb hby at_58) rfl k) ?_
      show own_Go p.tables e below K (T218.setTop (mkF m 60 #[.val (.int q1), .val (.int q2), .val (.int q3), .val (.int q4), .val (.int ci), .val (.int (3 : Int32)), .val (.int t1), .val (.int t2), .val (.ref b211), .val (.ref b213), .unset, .unset, .unset, .unset, .unset, .unset, .unset, .unset, .unset, .unset, .unset, .unset, .unset] [(.int (3 : Int32))]))
      refine own_by (fun t k => XS.iconst X218.here hx rfl (hb hby at_60) k) ?_
      show own_Go p.tables e below K (T218.setTop (mkF m 61 #[.val (.int q1), .val (.int q2), .val (.int q3), .val (.int q4), .val (.int ci), .val (.int (3 : Int32)), .val (.int t1), .val (.int t2), .val (.ref b211), .val (.ref b213), .unset, .unset, .unset, .unset, .unset, .unset, .unset, .unset, .unset, .unset, .unset, .unset, .unset] [(.int (2 : Int32)), (.int (3 : Int32))]))
      have hc61 : ¬ ((3 : Int32) < (2 : Int32)) := by decide
      refine own_by (fun t k => XS.icmpNo X218.here hx rfl (hb hby at_61) rfl (flt hc61).1 k) ?_
      show own_Go p.tables e below K (T218.setTop (mkF m 64 #[.val (.int q1), .val (.int q2), .val (.int q3), .val (.int q4), .val (.int ci), .val (.int (3 : Int32)), .val (.int t1), .val (.int t2), .val (.ref b211), .val (.ref b213), .unset, .unset, .unset, .unset, .unset, .unset, .unset, .unset, .unset, .unset, .unset, .unset, .unset] []))
      refine own_by (fun t k => XS.aload X218.here hx rfl (hb hby at_64) rfl rfl k) ?_
      show own_Go p.tables e below K (T218.setTop (mkF m 66 #[.val (.int q1), .val (.int q2), .val (.int q3), .val (.int q4), .val (.int ci), .val (.int (3 : Int32)), .val (.int t1), .val (.int t2), .val (.ref b211), .val (.ref b213), .unset, .unset, .unset, .unset, .unset, .unset, .unset, .unset, .unset, .unset, .unset, .unset, .unset] [(.ref b213)]))
      refine own_by (fun t k => XS.aload X218.here hx rfl (hb hby at_66) rfl rfl k) ?_
      show own_Go p.tables e below K (T218.setTop (mkF m 68 #[.val (.int q1), .val (.int q2), .val (.int q3), .val (.int q4), .val (.int ci), .val (.int (3 : Int32)), .val (.int t1), .val (.int t2), .val (.ref b211), .val (.ref b213), .unset, .unset, .unset, .unset, .unset, .unset, .unset, .unset, .unset, .unset, .unset, .unset, .unset] [(.ref b211), (.ref b213)]))
      obtain ⟨cq219, kq219, q219a, q219b, q219c⟩ := isOf hZ rfl Bp218.1
      obtain ⟨_, _, ⟨T219, L219, k219, n219⟩, -, X219, ⟨Lc219, hQ219, l219, y219, z219⟩, st219⟩ := X218.virtualBack hx (y := (⟨"java/util/ArrayList", "add", "(Ljava/lang/Object;)Z"⟩ : MethodName)) (z := (⟨"java/util/ArrayList", "add", "(Ljava/lang/Object;)Z"⟩ : MethodName)) hown (mvT hZ (hw _ (List.mem_of_getElem? (i := 46) rfl))) (mvT hZ (hw _ (List.mem_of_getElem? (i := 47) rfl))) (notFace_of_selects (args := #[]) (mvT hZ (hw _ (List.mem_of_getElem? (i := 49) rfl)))) (mvT hZ (hw _ (List.mem_of_getElem? (i := 49) rfl))) (mvT hZ (hw _ (List.mem_of_getElem? (i := 48) rfl))) (by decide) (backOf (W := 0) (own_rmadd1 l Z aw hw [] b213 b211 ((0 : Int32) + 1) el218 k218c dd lz ez em mr T218.heap n0 Z218 ⟨Bp218.1, Bp218.2.1, Bp218.2.2.1, Bp218.2.2.2⟩ Ex218_b211 gn_b213 Ap218 gp218 O218 S0) hZ (hw _ (List.mem_of_getElem? (i := 50) rfl)) (hw _ (List.mem_of_getElem? (i := 24) rfl)) (by decide) (by decide)) q219a q219c (g := (mkF m 68 #[.val (.int q1), .val (.int q2), .val (.int q3), .val (.int q4), .val (.int ci), .val (.int (3 : Int32)), .val (.int t1), .val (.int t2), .val (.ref b211), .val (.ref b213), .unset, .unset, .unset, .unset, .unset, .unset, .unset, .unset, .unset, .unset, .unset, .unset, .unset] [(.ref b211), (.ref b213)])) rfl (by rw [hml]; rfl) (Steps.refl _) (argsL := [(.ref b211)]) (rest := []) (lenOf own_pd21 rfl) rfl (by show 2 * 0 + _ ≤ _; exact Nat.le_of_eq rfl) (hb hby at_68) (fun _ _ => ⟨rfl, rfl, (by decide : 3 + 1 ≤ _), (by decide : 16 + 10 ≤ _)⟩)
      dsimp only [Pt.U, Pt.locs, Pt.cells, Pt.slots] at X219 l219 y219 z219 st219 hQ219
      subst l219 y219 z219
      obtain ⟨rfl, N219q, Kp219, Bp219, Ap219⟩ := hQ219
      have N219 := Fr.app N218 N219q
      refine own_by (fun t k => st219.trans k) ?_
      have Ex219_b211 := Ex218_b211.keep Kp219
      have Ex219_b213 := Bp218.1.keep Kp219
      have Z219 := Nat.le_trans Z218 Kp219.1
      have O219 := O218.keep Kp219 (allS gn_b213 (allS gp218 (all0)))
      show own_Go p.tables e below K (T219.setTop (mkF m 71 #[.val (.int q1), .val (.int q2), .val (.int q3), .val (.int q4), .val (.int ci), .val (.int (3 : Int32)), .val (.int t1), .val (.int t2), .val (.ref b211), .val (.ref b213), .unset, .unset, .unset, .unset, .unset, .unset, .unset, .unset, .unset, .unset, .unset, .unset, .unset] [(.int (1 : Int32))]))
      refine own_by (fun t k => XS.pop X219.here hx rfl (hb hby at_71) rfl rfl k) ?_
      show own_Go p.tables e below K (T219.setTop (mkF m 72 #[.val (.int q1), .val (.int q2), .val (.int q3), .val (.int q4), .val (.int ci), .val (.int (3 : Int32)), .val (.int t1), .val (.int t2), .val (.ref b211), .val (.ref b213), .unset, .unset, .unset, .unset, .unset, .unset, .unset, .unset, .unset, .unset, .unset, .unset, .unset] []))
      refine own_by (fun t k => XS.iload X219.here hx rfl (hb hby at_72) rfl k) ?_
      show own_Go p.tables e below K (T219.setTop (mkF m 74 #[.val (.int q1), .val (.int q2), .val (.int q3), .val (.int q4), .val (.int ci), .val (.int (3 : Int32)), .val (.int t1), .val (.int t2), .val (.ref b211), .val (.ref b213), .unset, .unset, .unset, .unset, .unset, .unset, .unset, .unset, .unset, .unset, .unset, .unset, .unset] [(.int (3 : Int32))]))
      refine own_by (fun t k => XS.iconst X219.here hx rfl (hb hby at_74) k) ?_
      show own_Go p.tables e below K (T219.setTop (mkF m 75 #[.val (.int q1), .val (.int q2), .val (.int q3), .val (.int q4), .val (.int ci), .val (.int (3 : Int32)), .val (.int t1), .val (.int t2), .val (.ref b211), .val (.ref b213), .unset, .unset, .unset, .unset, .unset, .unset, .unset, .unset, .unset, .unset, .unset, .unset, .unset] [(.int (3 : Int32)), (.int (3 : Int32))]))
      have hc75 : ¬ ((3 : Int32) < (3 : Int32)) := by decide
      refine own_by (fun t k => XS.icmpNo X219.here hx rfl (hb hby at_75) rfl (flt hc75).1 k) ?_
      show own_Go p.tables e below K (T219.setTop (mkF m 78 #[.val (.int q1), .val (.int q2), .val (.int q3), .val (.int q4), .val (.int ci), .val (.int (3 : Int32)), .val (.int t1), .val (.int t2), .val (.ref b211), .val (.ref b213), .unset, .unset, .unset, .unset, .unset, .unset, .unset, .unset, .unset, .unset, .unset, .unset, .unset] []))
      refine own_by (fun t k => XS.aload X219.here hx rfl (hb hby at_78) rfl rfl k) ?_
      show own_Go p.tables e below K (T219.setTop (mkF m 80 #[.val (.int q1), .val (.int q2), .val (.int q3), .val (.int q4), .val (.int ci), .val (.int (3 : Int32)), .val (.int t1), .val (.int t2), .val (.ref b211), .val (.ref b213), .unset, .unset, .unset, .unset, .unset, .unset, .unset, .unset, .unset, .unset, .unset, .unset, .unset] [(.ref b213)]))
      refine own_by (fun t k => XS.aload X219.here hx rfl (hb hby at_80) rfl rfl k) ?_
      show own_Go p.tables e below K (T219.setTop (mkF m 82 #[.val (.int q1), .val (.int q2), .val (.int q3), .val (.int q4), .val (.int ci), .val (.int (3 : Int32)), .val (.int t1), .val (.int t2), .val (.ref b211), .val (.ref b213), .unset, .unset, .unset, .unset, .unset, .unset, .unset, .unset, .unset, .unset, .unset, .unset, .unset] [(.ref b211), (.ref b213)]))
      obtain ⟨cq220, kq220, q220a, q220b, q220c⟩ := isOf hZ rfl Bp219.1
      obtain ⟨_, _, ⟨T220, L220, k220, n220⟩, -, X220, ⟨Lc220, hQ220, l220, y220, z220⟩, st220⟩ := X219.virtualBack hx (y := (⟨"java/util/ArrayList", "add", "(Ljava/lang/Object;)Z"⟩ : MethodName)) (z := (⟨"java/util/ArrayList", "add", "(Ljava/lang/Object;)Z"⟩ : MethodName)) hown (mvT hZ (hw _ (List.mem_of_getElem? (i := 46) rfl))) (mvT hZ (hw _ (List.mem_of_getElem? (i := 47) rfl))) (notFace_of_selects (args := #[]) (mvT hZ (hw _ (List.mem_of_getElem? (i := 49) rfl)))) (mvT hZ (hw _ (List.mem_of_getElem? (i := 49) rfl))) (mvT hZ (hw _ (List.mem_of_getElem? (i := 48) rfl))) (by decide) (backOf (W := 0) (own_rmadd2 l Z aw hw [] b213 b211 (((0 : Int32) + 1) + 1) el218 k218c dd lz ez em mr T219.heap n0 Z219 ⟨Bp219.1, Bp219.2.1, Bp219.2.2.1, Bp219.2.2.2⟩ Ex219_b211 gn_b213 Ap219 gp218 O219 S0) hZ (hw _ (List.mem_of_getElem? (i := 50) rfl)) (hw _ (List.mem_of_getElem? (i := 24) rfl)) (by decide) (by decide)) q220a q220c (g := (mkF m 82 #[.val (.int q1), .val (.int q2), .val (.int q3), .val (.int q4), .val (.int ci), .val (.int (3 : Int32)), .val (.int t1), .val (.int t2), .val (.ref b211), .val (.ref b213), .unset, .unset, .unset, .unset, .unset, .unset, .unset, .unset, .unset, .unset, .unset, .unset, .unset] [(.ref b211), (.ref b213)])) rfl (by rw [hml]; rfl) (Steps.refl _) (argsL := [(.ref b211)]) (rest := []) (lenOf own_pd21 rfl) rfl (by show 2 * 0 + _ ≤ _; exact Nat.le_of_eq rfl) (hb hby at_82) (fun _ _ => ⟨rfl, rfl, (by decide : 4 + 1 ≤ _), (by decide : 26 + 10 ≤ _)⟩)
      dsimp only [Pt.U, Pt.locs, Pt.cells, Pt.slots] at X220 l220 y220 z220 st220 hQ220
      subst l220 y220 z220
      obtain ⟨rfl, N220q, Kp220, Bp220, Ap220⟩ := hQ220
      have N220 := Fr.app N219 N220q
      refine own_by (fun t k => st220.trans k) ?_
      have Ex220_b211 := Ex219_b211.keep Kp220
      have Ex220_b213 := Bp219.1.keep Kp220
      have Z220 := Nat.le_trans Z219 Kp220.1
      have O220 := O219.keep Kp220 (allS gn_b213 (allS gp218 (all0)))
      show own_Go p.tables e below K (T220.setTop (mkF m 85 #[.val (.int q1), .val (.int q2), .val (.int q3), .val (.int q4), .val (.int ci), .val (.int (3 : Int32)), .val (.int t1), .val (.int t2), .val (.ref b211), .val (.ref b213), .unset, .unset, .unset, .unset, .unset, .unset, .unset, .unset, .unset, .unset, .unset, .unset, .unset] [(.int (1 : Int32))]))
      refine own_by (fun t k => XS.pop X220.here hx rfl (hb hby at_85) rfl rfl k) ?_
      exact J86 _ _ _ b211 b213 el218 _ (own_more X220 (by decide) (by decide)) N220 Z220 O220 (Or.inr (Or.inr (Or.inr rfl))) gn_b213 ⟨Bp220.1, Bp220.2.1, Bp220.2.2.1, Bp220.2.2.2⟩ (Or.inr (Or.inr (Or.inr (⟨rfl, _, Ap220, Ex220_b211⟩))))
  exact J23 _ _ _ _ (own_ci q1) (own_cu q2) (own_ct q3) (own_ct q4)
theorem own_len0 {Z : State} {args : Array Value} {t : Term} {a : Addr} (ev : t.eval args Z none [] Z = some (.ref a)) (hA : (Jvm.Cond.arrayOf t (.object "java/lang/Object")).value args Z none Z [] = some true) (hl : (Jvm.Cond.eq (.length t) (.int 0)).value args Z none Z [] = some true) : own_len Z Z.heap a 0 := by
  obtain ⟨cl, A⟩ := Arr.start ev hA
  cases hq : (Term.length t).eval args Z none [] Z with
  | none => simp [Cond.value, hq] at hl
  | some v =>
    obtain ⟨b, cell, e1, e2, rfl⟩ := Term.length_spec hq
    cases ev.symm.trans e1
    have e3 := (State.arrayAt?_spec e2).1
    cases A.1.symm.trans e3
    have q : cl.slots.size.toInt32 = 0 := gotT (Cond.eq_ints hq (Term.int_eval (0))) hl
    exact ⟨cl, A, q⟩
set_option maxRecDepth 65536 in
set_option maxHeartbeats 40000000 in
theorem own_comes {Post : Tables → Env → Array Value → State → Outcome → State → Prop} (hpost : ∀ tb e args s v u, (limb_1_1.after args s (.returned v) u = true ∧ limb_1_2.after args s (.returned v) u = true ∧ True) → ReturnedEndW s (.returned v) u (Jvm.fieldLocs frame_1_writes args s ++ Jvm.arrayLocs frame_1_arrays args s ++ Jvm.staticLocs frame_1_statics s) 32 1216 → Post tb e args s (.returned v) u) :
    ArmFor flags0 classFile x code maxLocals ret World_1 tables_1 room_1 Calls_1 rest_1 Pre_1 Post := by
  intro l hfl _ _ p e ha hc hk s m args below hf hA hF happ hP
  obtain ⟨hcalls, hrest, hpre⟩ := hP
  obtain ⟨-, -, -, hnamed, -, -, -, hat⟩ := (Spec.applies_iff hf).mp happ
  obtain ⟨hg, hn⟩ := and_e (Cond.before_iff.mp (show (Jvm.Cond.and given_1 narrow_1).before args s = true from hpre))
  obtain ⟨hcount, g0⟩ := and_e hg
  obtain ⟨a0, g1⟩ := and_e g0
  obtain ⟨a1, g2⟩ := and_e g1
  obtain ⟨a2, g3⟩ := and_e g2
  obtain ⟨w0, w1, w2, w3, rfl⟩ : ∃ w0 w1 w2 w3 : Value, args = #[w0, w1, w2, w3] := by
    have hs : args.size = 4 := by simpa [Cond.value, given_1] using hcount
    obtain ⟨L⟩ := args
    match L, hs with
    | [w0, w1, w2, w3], _ => exact ⟨w0, w1, w2, w3, rfl⟩
  have hw := fun d (hd : d ∈ tables_1) => atoms_spec (ws := Jvm.Cond.code x code maxLocals ret :: tables_1) hat d (List.mem_cons_of_mem _ hd)
  have hfit : Fit s := fun {y c} hc i hi => by
    obtain ⟨ha, rfl⟩ := Array.getElem?_eq_some_iff.mp hc
    have q := List.all_eq_true.mp ((Array.all_eq_true_iff_forall_mem.mp hF) _ (Array.getElem_mem ha)) i (List.mem_range.mpr hi)
    simpa [Array.getElem?_eq_getElem hi] using q
  obtain ⟨hsets, hown0⟩ := atoms_of _ (rest_1_c_eq ▸ (show rest_1_c.before _ s = true from hrest))
  have hr0 := Cond.before_iff.mp hown0
  obtain ⟨i0, ei0⟩ := is_v a0
  obtain rfl : w0 = (.int i0) := Option.some.inj ei0
  obtain ⟨i1, ei1⟩ := is_v a1
  obtain rfl : w1 = (.int i1) := Option.some.inj ei1
  obtain ⟨i2, ei2⟩ := is_v a2
  obtain rfl : w2 = (.int i2) := Option.some.inj ei2
  obtain ⟨i3, ei3⟩ := is_v g3
  obtain rfl : w3 = (.int i3) := Option.some.inj ei3
  obtain ⟨dd, evD⟩ := arr_v (Cond.before_iff.mp (hsets _ (List.mem_of_getElem? (i := 6) rfl)))
  have S_D := Sta.start evD (Or.inr ⟨(hw _ (List.mem_of_getElem? (i := 24) rfl)), (hsets _ (List.mem_of_getElem? (i := 2) rfl))⟩)
  have L_D := own_len0 evD (Cond.before_iff.mp (hsets _ (List.mem_of_getElem? (i := 6) rfl))) (Cond.before_iff.mp (hsets _ (List.mem_of_getElem? (i := 8) rfl)))
  obtain ⟨lz, evL⟩ := exa_v (Cond.before_iff.mp (hsets _ (List.mem_of_getElem? (i := 11) rfl)))
  have S_L := Sta.start evL (Or.inl (hsets _ (List.mem_of_getElem? (i := 10) rfl)))
  have E_L := Exa.start evL (Cond.before_iff.mp (hsets _ (List.mem_of_getElem? (i := 11) rfl)))
  obtain ⟨ez, evZ⟩ := arr_v (Cond.before_iff.mp (hsets _ (List.mem_of_getElem? (i := 12) rfl)))
  have F_L := Fld.start ((fld_at evL).symm.trans evZ)
  have L_Z := own_len0 evZ (Cond.before_iff.mp (hsets _ (List.mem_of_getElem? (i := 12) rfl))) (Cond.before_iff.mp (hsets _ (List.mem_of_getElem? (i := 14) rfl)))
  obtain ⟨em, evE⟩ := exa_v (Cond.before_iff.mp (hsets _ (List.mem_of_getElem? (i := 18) rfl)))
  have S_E := Sta.start evE (Or.inl (hsets _ (List.mem_of_getElem? (i := 17) rfl)))
  have E_E := Exa.start evE (Cond.before_iff.mp (hsets _ (List.mem_of_getElem? (i := 18) rfl)))
  obtain ⟨cM, kM, mr, hM1, hM2, hM3⟩ := hcalls.1
  obtain ⟨n, o, h1, h2, h3, _, L, rfl, ⟨rfl, N⟩, hq⟩ := own_rm0 l s _ hw tables_1 i0 i1 i2 i3 dd lz ez em mr ⟨S_D, L_D, S_L, E_L, F_L, L_Z, S_E, E_E, cM, kM, hM1, hM2, hM3.1⟩ p e ha hc hk s m _ below hf ((Spec.applies_iff_loose hf).mp happ).1 ⟨rfl, rfl⟩ trivial
  refine ⟨n, _, h1, h2, h3, hpost _ _ _ _ _ _ ⟨Cond.after_iff.mpr rfl, Cond.after_iff.mpr (eq_i res_at (Term.int_eval (1)) rfl), trivial⟩ ⟨hq.1, hq.2.1, hq.2.2.1, (hq.2.2.2.sift fun y hy => Or.inr (N y hy)).mono (by decide) (by decide)⟩⟩
theorem main_1_1 : Claimed_1_1 := own_comes fun _ _ _ _ _ _ h hF => ⟨h.1, hF⟩
theorem main_1_2 : Claimed_1_2 := own_comes fun _ _ _ _ _ _ h hF => ⟨h.2.1, hF⟩
end Jvm.Pilot.@@N@@
namespace Jvm.Pilot.@@N@@
open Jvm Jvm.ClassFile Sem Op Lib Jvm.Free Jvm.Stand Jvm.Pilot.@@N@@.Jvm.D
/-! MADE BY PROGRAM (witnessworld.py) out of the Statement's table words and the real class files: 36 classes; the members and pool entries that the words name. The judged class is class 1, her method 1. -/
namespace start1
open Jvm.ClassFile
def u (s : String) : CpInfo := .utf8 (stringToUtf16 s)
/-- a pool by its gaps: so many unusable entries, then the entry; so many at the end -/
def gap : Nat → List CpInfo → List CpInfo
  | 0, r => r
  | n + 1, r => .unusable :: gap n r
def poolList (es : List (Nat × CpInfo)) (last : Nat) : List CpInfo := es.foldr (fun e r => gap e.1 (e.2 :: r)) (gap last [])
def pool (es : List (Nat × CpInfo)) (last : Nat) : Array CpInfo := ⟨poolList es last⟩
def fileOf (pool : Array CpInfo) (this : Nat) (attrs : Array Attribute := #[]) (ms : Array MethodInfo := #[]) (fl : Nat := 33) (sup : Nat := 0) (ifs : Array Nat := #[]) (fds : Array FieldInfo := #[]) : ClassFile where
  minorVersion := 0
  majorVersion := 65
  constantPool := pool
  accessFlags := fl
  thisClass := this
  superClass := sup
  interfaces := ifs
  fields := fds
  methods := ms
  attributes := attrs
def plain (name : String) (sup : Option ClassId) : Class where
  name := name
  kind := .ordinary
  loader := none
  accessFlags := 33
  super := sup
  interfaces := #[]
  cf := none
  fields := #[]
  methods := #[]
  instanceTypes := #[]
  staticTypes := #[]
  resolved := #[]
  callSites := []
  init := .initialized
  statics := none
  mirror := none

def pool0 : Array CpInfo := pool [(5, u "<init>"), (0, u "()V"), (1, .class_ 10), (1, u "java/lang/Object"), (0, u "getClass"), (0, u "()Ljava/lang/Class;")] 111

def k0c0 : Code := { maxStack := 0, maxLocals := 1, code := object_method_1_code, exceptionTable := #[], attributes := #[] }
def k0m0 : Method := { name := "<init>", desc := "()V", sig := { parameters := [], returnType := none }, accessFlags := 1, code := some k0c0 }
def k0m1 : Method := { name := "getClass", desc := "()Ljava/lang/Class;", sig := { parameters := [], returnType := some (.object "java/lang/Class") }, accessFlags := 273, code := none }
/-- java/lang/Object -/
def k0 : Class := { plain "java/lang/Object" none with
  accessFlags := 33
  interfaces := #[]
  cf := some (fileOf pool0 8 #[] #[{ accessFlags := 1, nameIndex := 5, descriptorIndex := 6, attributes := #[] }, { accessFlags := 273, nameIndex := 11, descriptorIndex := 12, attributes := #[] }] 33 0 #[] #[])
  fields := #[]
  methods := #[k0m0, k0m1]
  instanceTypes := #[]
  staticTypes := #[]
  resolved := Array.replicate 124 none
  statics := none }

def pool1 : Array CpInfo := pool [(2, .class_ 4), (0, .nameAndType 5 6), (0, u "java/lang/Object"), (0, u "<init>"), (0, u "()V"), (0, .integer 65536), (0, .integer 1073741824), (0, .class_ 10), (0, u "com/example/skyroster/skyroster/UsedWindow"), (0, .methodref 9 12), (0, .nameAndType 5 13), (0, u "(JJJ)V"), (0, .class_ 15), (0, u "java/util/ArrayList"), (0, .methodref 14 3), (0, .methodref 14 18), (0, .nameAndType 19 20), (0, u "add"), (0, u "(Ljava/lang/Object;)Z"), (0, .class_ 22), (0, u "com/example/skyroster/skyroster/Satellite"), (0, .string 24), (0, u "s"), (0, .methodref 21 26), (0, .nameAndType 5 27), (0, u "(Ljava/lang/String;Ljava/lang/String;Ljava/util/List;DJJJLjava/util/List;)V"), (0, .class_ 29), (0, u "com/example/skyroster/skyroster/CostShare"), (0, .methodref 28 31), (0, .nameAndType 5 32), (0, u "(Lcom/example/skyroster/skyroster/Satellite;)V"), (0, .fieldref 28 34), (0, .nameAndType 35 36), (0, u "taskCount"), (0, u "I"), (0, .fieldref 28 38), (0, .nameAndType 39 36), (0, u "usedCount"), (0, .fieldref 28 41), (0, .nameAndType 42 43), (0, u "coefficient"), (0, u "D"), (0, .methodref 28 45), (0, .nameAndType 46 47), (0, u "give"), (0, u "(D)V"), (0, .fieldref 28 49), (0, .nameAndType 50 43), (0, u "taskCostSum"), (0, .fieldref 28 52), (0, .nameAndType 53 43), (0, u "cost"), (0, .class_ 55), (0, u "com/example/skyroster/skyroster/CostShareGivePinLaw"), (2, u "law"), (0, u "(IIII)Z")] 3

def k1m0 : Method := { name := "<init>", desc := "()V", sig := { parameters := [], returnType := none }, accessFlags := 1, code := none }
def k1c1 : Code := { maxStack := 14, maxLocals := 23, code := code, exceptionTable := #[], attributes := #[] }
def k1m1 : Method := { name := "law", desc := "(IIII)Z", sig := { parameters := [.int, .int, .int, .int], returnType := some .boolean }, accessFlags := 9, code := some k1c1 }
/-- com/example/skyroster/skyroster/CostShareGivePinLaw -/
def k1 : Class := { plain "com/example/skyroster/skyroster/CostShareGivePinLaw" (some 0) with
  accessFlags := 49
  interfaces := #[]
  cf := some (fileOf pool1 54 #[] #[{ accessFlags := 1, nameIndex := 5, descriptorIndex := 6, attributes := #[] }, { accessFlags := 9, nameIndex := 58, descriptorIndex := 59, attributes := #[] }] 49 2 #[] #[])
  fields := #[]
  methods := #[k1m0, k1m1]
  instanceTypes := #[]
  staticTypes := #[]
  resolved := Array.replicate 63 none
  statics := none }

def pool2 : Array CpInfo := pool [(1, .methodref 2 3), (0, .class_ 4), (0, .nameAndType 5 6), (0, u "java/lang/Object"), (0, u "<init>"), (0, u "()V"), (0, .class_ 8), (0, u "java/lang/Record")] 13

def k2c0 : Code := { maxStack := 1, maxLocals := 1, code := jdk_30_method_1_code, exceptionTable := #[], attributes := #[] }
def k2m0 : Method := { name := "<init>", desc := "()V", sig := { parameters := [], returnType := none }, accessFlags := 4, code := some k2c0 }
/-- java/lang/Record -/
def k2 : Class := { plain "java/lang/Record" (some 0) with
  accessFlags := 1057
  interfaces := #[]
  cf := some (fileOf pool2 7 #[] #[{ accessFlags := 4, nameIndex := 5, descriptorIndex := 6, attributes := #[] }] 1057 2 #[] #[])
  fields := #[]
  methods := #[k2m0]
  instanceTypes := #[]
  staticTypes := #[]
  resolved := Array.replicate 22 none
  statics := none }

def pool3 : Array CpInfo := pool [(1, .methodref 2 3), (0, .class_ 4), (0, .nameAndType 5 6), (0, u "java/lang/Record"), (0, u "<init>"), (0, u "()V"), (0, .fieldref 8 9), (0, .class_ 10), (0, .nameAndType 11 12), (0, u "com/example/skyroster/skyroster/UsedWindow"), (0, u "startS"), (0, u "J"), (0, .fieldref 8 14), (0, .nameAndType 15 12), (0, u "endS"), (0, .fieldref 8 17), (0, .nameAndType 18 12), (0, u "orbit"), (12, u "(JJJ)V")] 29

def k3c0 : Code := { maxStack := 3, maxLocals := 7, code := prog_24_method_1_code, exceptionTable := #[], attributes := #[] }
def k3m0 : Method := { name := "<init>", desc := "(JJJ)V", sig := { parameters := [.long, .long, .long], returnType := none }, accessFlags := 1, code := some k3c0 }
/-- com/example/skyroster/skyroster/UsedWindow -/
def k3 : Class := { plain "com/example/skyroster/skyroster/UsedWindow" (some 2) with
  accessFlags := 49
  interfaces := #[]
  cf := some (fileOf pool3 8 #[] #[{ accessFlags := 1, nameIndex := 5, descriptorIndex := 31, attributes := #[] }] 49 2 #[] #[{ accessFlags := 18, nameIndex := 11, descriptorIndex := 12, attributes := #[] }, { accessFlags := 18, nameIndex := 15, descriptorIndex := 12, attributes := #[] }, { accessFlags := 18, nameIndex := 18, descriptorIndex := 12, attributes := #[] }])
  fields := #[{ name := "startS", type := .long, accessFlags := 18, slot := 0, constantValue := 0 }, { name := "endS", type := .long, accessFlags := 18, slot := 1, constantValue := 0 }, { name := "orbit", type := .long, accessFlags := 18, slot := 2, constantValue := 0 }]
  methods := #[k3m0]
  instanceTypes := #[.long, .long, .long]
  staticTypes := #[]
  resolved := Array.replicate 61 none
  statics := none }

def pool4 : Array CpInfo := pool [(8, .class_ 10), (1, u "java/lang/Iterable"), (24, .class_ 36), (0, u "java/lang/Object")] 25

/-- java/lang/Iterable -/
def k4 : Class := { plain "java/lang/Iterable" (some 0) with
  accessFlags := 1537
  interfaces := #[]
  cf := some (fileOf pool4 8 #[] #[] 1537 35 #[] #[])
  fields := #[]
  methods := #[]
  instanceTypes := #[]
  staticTypes := #[]
  resolved := Array.replicate 62 none
  statics := none }

def pool5 : Array CpInfo := pool [(10, .class_ 12), (1, u "java/util/Collection"), (0, u "toArray"), (16, u "()Z"), (29, .class_ 61), (0, u "java/lang/Object"), (0, .class_ 63), (0, u "java/lang/Iterable"), (2, u "isEmpty"), (3, u "()[Ljava/lang/Object;")] 44

def k5m0 : Method := { name := "isEmpty", desc := "()Z", sig := { parameters := [], returnType := some .boolean }, accessFlags := 1025, code := none }
def k5m1 : Method := { name := "toArray", desc := "()[Ljava/lang/Object;", sig := { parameters := [], returnType := some (.array (.object "java/lang/Object")) }, accessFlags := 1025, code := none }
/-- java/util/Collection -/
def k5 : Class := { plain "java/util/Collection" (some 0) with
  accessFlags := 1537
  interfaces := #[4]
  cf := some (fileOf pool5 10 #[] #[{ accessFlags := 1025, nameIndex := 66, descriptorIndex := 30, attributes := #[] }, { accessFlags := 1025, nameIndex := 13, descriptorIndex := 70, attributes := #[] }] 1537 60 #[62] #[])
  fields := #[]
  methods := #[k5m0, k5m1]
  instanceTypes := #[]
  staticTypes := #[]
  resolved := Array.replicate 115 none
  statics := none }

def pool6 : Array CpInfo := pool [(1, .methodref 2 3), (0, .class_ 4), (0, .nameAndType 5 6), (0, u "java/lang/Object"), (0, u "<init>"), (0, u "()V"), (1, .class_ 10), (1, u "java/util/AbstractCollection"), (66, .class_ 78), (0, u "java/util/Collection")] 81

def k6c0 : Code := { maxStack := 1, maxLocals := 1, code := jdk_22_method_1_code, exceptionTable := #[], attributes := #[] }
def k6m0 : Method := { name := "<init>", desc := "()V", sig := { parameters := [], returnType := none }, accessFlags := 4, code := some k6c0 }
/-- java/util/AbstractCollection -/
def k6 : Class := { plain "java/util/AbstractCollection" (some 0) with
  accessFlags := 1057
  interfaces := #[5]
  cf := some (fileOf pool6 8 #[] #[{ accessFlags := 4, nameIndex := 5, descriptorIndex := 6, attributes := #[] }] 1057 2 #[77] #[])
  fields := #[]
  methods := #[k6m0]
  instanceTypes := #[]
  staticTypes := #[]
  resolved := Array.replicate 160 none
  statics := none }

def pool7 : Array CpInfo := pool [(8, .class_ 10), (1, u "java/util/SequencedCollection"), (15, .class_ 27), (0, u "java/lang/Object"), (0, .class_ 29), (0, u "java/util/Collection")] 27

/-- java/util/SequencedCollection -/
def k7 : Class := { plain "java/util/SequencedCollection" (some 0) with
  accessFlags := 1537
  interfaces := #[5]
  cf := some (fileOf pool7 8 #[] #[] 1537 26 #[28] #[])
  fields := #[]
  methods := #[]
  instanceTypes := #[]
  staticTypes := #[]
  resolved := Array.replicate 57 none
  statics := none }

def pool8 : Array CpInfo := pool [(8, .class_ 10), (1, u "java/util/List"), (20, u "(Ljava/lang/Object;)V"), (16, u "<init>"), (30, u "size"), (0, u "()I"), (7, u "of"), (1, .fieldref 91 92), (0, .class_ 93), (0, .nameAndType 94 95), (0, u "java/util/ImmutableCollections"), (0, u "EMPTY_LIST"), (0, u "Ljava/util/ImmutableCollections$ListN;"), (0, .class_ 97), (0, u "java/util/ImmutableCollections$List12"), (0, .methodref 96 99), (0, .nameAndType 48 31), (0, .methodref 96 101), (0, .nameAndType 48 102), (0, u "(Ljava/lang/Object;Ljava/lang/Object;)V"), (0, .class_ 104), (0, u "java/lang/Object"), (3, u "([Ljava/lang/Object;)Ljava/util/List;"), (0, .methodref 91 110), (0, .nameAndType 111 108), (0, u "listFromArray"), (0, .methodref 91 113), (0, .nameAndType 114 115), (0, u "listCopy"), (0, u "(Ljava/util/Collection;)Ljava/util/List;"), (3, u "()Ljava/util/List;"), (0, .class_ 121), (0, u "java/util/SequencedCollection"), (112, u "copyOf")] 16

def k8m0 : Method := { name := "size", desc := "()I", sig := { parameters := [], returnType := some .int }, accessFlags := 1025, code := none }
def k8c1 : Code := { maxStack := 1, maxLocals := 0, code := jdk_40_method_36_code, exceptionTable := #[], attributes := #[] }
def k8m1 : Method := { name := "of", desc := "()Ljava/util/List;", sig := { parameters := [], returnType := some (.object "java/util/List") }, accessFlags := 9, code := some k8c1 }
def k8c2 : Code := { maxStack := 5, maxLocals := 2, code := jdk_40_method_47_code, exceptionTable := #[], attributes := #[] }
def k8m2 : Method := { name := "of", desc := "([Ljava/lang/Object;)Ljava/util/List;", sig := { parameters := [(.array (.object "java/lang/Object"))], returnType := some (.object "java/util/List") }, accessFlags := 137, code := some k8c2 }
def k8c3 : Code := { maxStack := 1, maxLocals := 1, code := jdk_40_method_48_code, exceptionTable := #[], attributes := #[] }
def k8m3 : Method := { name := "copyOf", desc := "(Ljava/util/Collection;)Ljava/util/List;", sig := { parameters := [(.object "java/util/Collection")], returnType := some (.object "java/util/List") }, accessFlags := 9, code := some k8c3 }
/-- java/util/List -/
def k8 : Class := { plain "java/util/List" (some 0) with
  accessFlags := 1537
  interfaces := #[7]
  cf := some (fileOf pool8 8 #[] #[{ accessFlags := 1025, nameIndex := 79, descriptorIndex := 80, attributes := #[] }, { accessFlags := 9, nameIndex := 88, descriptorIndex := 119, attributes := #[] }, { accessFlags := 137, nameIndex := 88, descriptorIndex := 108, attributes := #[] }, { accessFlags := 9, nameIndex := 234, descriptorIndex := 115, attributes := #[] }] 1537 103 #[120] #[])
  fields := #[]
  methods := #[k8m0, k8m1, k8m2, k8m3]
  instanceTypes := #[]
  staticTypes := #[]
  resolved := Array.replicate 251 none
  statics := none }

def pool9 : Array CpInfo := pool [(1, .methodref 2 3), (0, .class_ 4), (0, .nameAndType 5 6), (0, u "java/util/AbstractCollection"), (0, u "<init>"), (0, u "()V"), (0, .fieldref 8 9), (0, .class_ 10), (0, .nameAndType 11 12), (0, u "java/util/AbstractList"), (0, u "modCount"), (0, u "I"), (64, .class_ 78), (0, u "java/util/AbstractList$Itr"), (3, .class_ 83), (0, u "java/util/AbstractList$ListItr"), (9, .class_ 94), (0, u "java/util/AbstractList$RandomAccessSubList"), (3, .class_ 99), (0, u "java/util/AbstractList$SubList"), (33, .class_ 134), (0, u "java/util/List"), (73, .class_ 209), (0, u "java/util/AbstractList$SubList$1"), (0, .class_ 211), (0, u "java/util/AbstractList$RandomAccessSpliterator")] 6

def k9c0 : Code := { maxStack := 2, maxLocals := 1, code := jdk_39_method_1_code, exceptionTable := #[], attributes := #[] }
def k9m0 : Method := { name := "<init>", desc := "()V", sig := { parameters := [], returnType := none }, accessFlags := 4, code := some k9c0 }
/-- java/util/AbstractList -/
def k9 : Class := { plain "java/util/AbstractList" (some 6) with
  accessFlags := 1057
  interfaces := #[8]
  cf := some (fileOf pool9 8 #[.nestMembers #[93, 98, 208, 210, 82, 77]] #[{ accessFlags := 4, nameIndex := 5, descriptorIndex := 6, attributes := #[] }] 1057 2 #[133] #[{ accessFlags := 132, nameIndex := 11, descriptorIndex := 12, attributes := #[] }])
  fields := #[{ name := "modCount", type := .int, accessFlags := 132, slot := 0, constantValue := 0 }]
  methods := #[k9m0]
  instanceTypes := #[.int]
  staticTypes := #[]
  resolved := Array.replicate 218 none
  statics := none }

def pool10 : Array CpInfo := pool [(1, .class_ 2), (0, u "java/util/RandomAccess"), (0, .class_ 4), (0, u "java/lang/Object")] 2

/-- java/util/RandomAccess -/
def k10 : Class := { plain "java/util/RandomAccess" (some 0) with
  accessFlags := 1537
  interfaces := #[]
  cf := some (fileOf pool10 1 #[] #[] 1537 3 #[] #[])
  fields := #[]
  methods := #[]
  instanceTypes := #[]
  staticTypes := #[]
  resolved := Array.replicate 7 none
  statics := none }

def pool11 : Array CpInfo := pool [(1, .class_ 2), (0, u "java/lang/Cloneable"), (0, .class_ 4), (0, u "java/lang/Object")] 2

/-- java/lang/Cloneable -/
def k11 : Class := { plain "java/lang/Cloneable" (some 0) with
  accessFlags := 1537
  interfaces := #[]
  cf := some (fileOf pool11 1 #[] #[] 1537 3 #[] #[])
  fields := #[]
  methods := #[]
  instanceTypes := #[]
  staticTypes := #[]
  resolved := Array.replicate 7 none
  statics := none }

def pool12 : Array CpInfo := pool [(1, .class_ 2), (0, u "java/io/Serializable"), (0, .class_ 4), (0, u "java/lang/Object")] 2

/-- java/io/Serializable -/
def k12 : Class := { plain "java/io/Serializable" (some 0) with
  accessFlags := 1537
  interfaces := #[]
  cf := some (fileOf pool12 1 #[] #[] 1537 3 #[] #[])
  fields := #[]
  methods := #[]
  instanceTypes := #[]
  staticTypes := #[]
  resolved := Array.replicate 7 none
  statics := none }

def pool13 : Array CpInfo := pool [(1, .methodref 2 3), (0, .class_ 4), (0, .nameAndType 5 6), (0, u "java/util/AbstractList"), (0, u "<init>"), (0, u "()V"), (0, .class_ 8), (0, u "java/lang/Object"), (0, .fieldref 10 11), (0, .class_ 12), (0, .nameAndType 13 14), (0, u "java/util/ArrayList"), (0, u "elementData"), (0, u "[Ljava/lang/Object;"), (2, u "EMPTY_ELEMENTDATA"), (21, .fieldref 10 40), (0, .nameAndType 41 14), (0, u "DEFAULTCAPACITY_EMPTY_ELEMENTDATA"), (4, u "toArray"), (0, u "()[Ljava/lang/Object;"), (0, .fieldref 10 49), (0, .nameAndType 50 51), (0, u "size"), (0, u "I"), (6, .class_ 60), (1, u "java/util/Arrays"), (0, u "copyOf"), (1, .fieldref 10 64), (0, .nameAndType 65 51), (0, u "modCount"), (0, .methodref 58 67), (0, .nameAndType 61 68), (0, u "([Ljava/lang/Object;I)[Ljava/lang/Object;"), (0, .methodref 10 70), (0, .nameAndType 71 72), (0, u "grow"), (0, u "(I)[Ljava/lang/Object;"), (6, .methodref 80 81), (0, .class_ 82), (0, .nameAndType 83 84), (0, u "java/lang/Math"), (0, u "max"), (0, u "(II)I"), (11, u "(Ljava/lang/Object;)Z"), (32, .methodref 10 130), (0, .nameAndType 71 47), (0, .methodref 10 132), (0, .nameAndType 133 134), (0, u "add"), (0, u "(Ljava/lang/Object;[Ljava/lang/Object;I)V"), (13, .class_ 149), (0, u "java/util/List"), (23, u "()Z"), (88, .class_ 263), (0, u "java/util/ArrayList$ListItr"), (3, .class_ 268), (0, u "java/util/ArrayList$Itr"), (7, .class_ 277), (0, u "java/util/ArrayList$SubList"), (12, .class_ 291), (0, u "java/util/ArrayList$ArrayListSpliterator"), (37, .class_ 330), (0, u "java/util/RandomAccess"), (0, .class_ 332), (0, u "java/lang/Cloneable"), (0, .class_ 334), (0, u "java/io/Serializable"), (0, u "serialVersionUID"), (0, u "J"), (3, u "DEFAULT_CAPACITY"), (22, u "isEmpty"), (136, .class_ 501), (0, u "java/util/ArrayList$SubList$2"), (0, .class_ 503), (0, u "java/util/ArrayList$SubList$1")] 5

def k13c0 : Code := { maxStack := 2, maxLocals := 1, code := jdk_38_method_2_code, exceptionTable := #[], attributes := #[] }
def k13m0 : Method := { name := "<init>", desc := "()V", sig := { parameters := [], returnType := none }, accessFlags := 1, code := some k13c0 }
def k13c1 : Code := { maxStack := 4, maxLocals := 4, code := jdk_38_method_6_code, exceptionTable := #[], attributes := #[] }
def k13m1 : Method := { name := "grow", desc := "(I)[Ljava/lang/Object;", sig := { parameters := [.int], returnType := some (.array (.object "java/lang/Object")) }, accessFlags := 2, code := some k13c1 }
def k13c2 : Code := { maxStack := 3, maxLocals := 1, code := jdk_38_method_7_code, exceptionTable := #[], attributes := #[] }
def k13m2 : Method := { name := "grow", desc := "()[Ljava/lang/Object;", sig := { parameters := [], returnType := some (.array (.object "java/lang/Object")) }, accessFlags := 2, code := some k13c2 }
def k13c3 : Code := { maxStack := 1, maxLocals := 1, code := jdk_38_method_9_code, exceptionTable := #[], attributes := #[] }
def k13m3 : Method := { name := "isEmpty", desc := "()Z", sig := { parameters := [], returnType := some .boolean }, accessFlags := 1, code := some k13c3 }
def k13c4 : Code := { maxStack := 2, maxLocals := 1, code := jdk_38_method_16_code, exceptionTable := #[], attributes := #[] }
def k13m4 : Method := { name := "toArray", desc := "()[Ljava/lang/Object;", sig := { parameters := [], returnType := some (.array (.object "java/lang/Object")) }, accessFlags := 1, code := some k13c4 }
def k13c5 : Code := { maxStack := 3, maxLocals := 4, code := jdk_38_method_24_code, exceptionTable := #[], attributes := #[] }
def k13m5 : Method := { name := "add", desc := "(Ljava/lang/Object;[Ljava/lang/Object;I)V", sig := { parameters := [(.object "java/lang/Object"), (.array (.object "java/lang/Object")), .int], returnType := none }, accessFlags := 2, code := some k13c5 }
def k13c6 : Code := { maxStack := 4, maxLocals := 2, code := jdk_38_method_25_code, exceptionTable := #[], attributes := #[] }
def k13m6 : Method := { name := "add", desc := "(Ljava/lang/Object;)Z", sig := { parameters := [(.object "java/lang/Object")], returnType := some .boolean }, accessFlags := 1, code := some k13c6 }
/-- java/util/ArrayList -/
def k13 : Class := { plain "java/util/ArrayList" (some 9) with
  accessFlags := 33
  interfaces := #[8, 10, 11, 12]
  cf := some (fileOf pool13 10 #[.nestMembers #[290, 276, 500, 502, 262, 267]] #[{ accessFlags := 1, nameIndex := 5, descriptorIndex := 6, attributes := #[] }, { accessFlags := 2, nameIndex := 71, descriptorIndex := 72, attributes := #[] }, { accessFlags := 2, nameIndex := 71, descriptorIndex := 47, attributes := #[] }, { accessFlags := 1, nameIndex := 363, descriptorIndex := 173, attributes := #[] }, { accessFlags := 1, nameIndex := 46, descriptorIndex := 47, attributes := #[] }, { accessFlags := 2, nameIndex := 133, descriptorIndex := 134, attributes := #[] }, { accessFlags := 1, nameIndex := 133, descriptorIndex := 96, attributes := #[] }] 33 2 #[148, 329, 331, 333] #[{ accessFlags := 26, nameIndex := 335, descriptorIndex := 336, attributes := #[] }, { accessFlags := 26, nameIndex := 340, descriptorIndex := 51, attributes := #[] }, { accessFlags := 26, nameIndex := 17, descriptorIndex := 14, attributes := #[] }, { accessFlags := 26, nameIndex := 41, descriptorIndex := 14, attributes := #[] }, { accessFlags := 128, nameIndex := 13, descriptorIndex := 14, attributes := #[] }, { accessFlags := 2, nameIndex := 50, descriptorIndex := 51, attributes := #[] }])
  fields := #[{ name := "serialVersionUID", type := .long, accessFlags := 26, slot := 0, constantValue := 0 }, { name := "DEFAULT_CAPACITY", type := .int, accessFlags := 26, slot := 1, constantValue := 0 }, { name := "EMPTY_ELEMENTDATA", type := (.array (.object "java/lang/Object")), accessFlags := 26, slot := 2, constantValue := 0 }, { name := "DEFAULTCAPACITY_EMPTY_ELEMENTDATA", type := (.array (.object "java/lang/Object")), accessFlags := 26, slot := 3, constantValue := 0 }, { name := "elementData", type := (.array (.object "java/lang/Object")), accessFlags := 128, slot := 1, constantValue := 0 }, { name := "size", type := .int, accessFlags := 2, slot := 2, constantValue := 0 }]
  methods := #[k13m0, k13m1, k13m2, k13m3, k13m4, k13m5, k13m6]
  instanceTypes := #[.int, (.array (.object "java/lang/Object")), .int]
  staticTypes := #[.long, .int, (.array (.object "java/lang/Object")), (.array (.object "java/lang/Object"))]
  resolved := Array.replicate 509 none
  statics := some 0 }

def pool14 : Array CpInfo := pool [(1, .class_ 2), (0, u "java/lang/Math"), (1, .class_ 6), (1, u "java/lang/Object"), (0, u "<init>"), (0, u "()V"), (89, .class_ 100), (1, u "java/lang/Math$RandomNumberGeneratorHolder"), (71, u "negativeZeroFloatBits"), (0, u "J"), (2, u "negativeZeroDoubleBits"), (21, u "max"), (2, u "min"), (43, u "$assertionsDisabled"), (0, u "Z"), (88, u "(II)I"), (2, u "twoToTheDoubleScaleDown"), (0, u "D"), (4, u "twoToTheDoubleScaleUp"), (9, u "E"), (3, u "PI"), (2, u "TAU"), (2, u "DEGREES_TO_RADIANS"), (0, u "RADIANS_TO_DEGREES")] 94

def k14m0 : Method := { name := "<init>", desc := "()V", sig := { parameters := [], returnType := none }, accessFlags := 2, code := none }
def k14c1 : Code := { maxStack := 2, maxLocals := 2, code := jdk_29_method_65_code, exceptionTable := #[], attributes := #[] }
def k14m1 : Method := { name := "max", desc := "(II)I", sig := { parameters := [.int, .int], returnType := some .int }, accessFlags := 9, code := some k14c1 }
def k14c2 : Code := { maxStack := 2, maxLocals := 2, code := jdk_29_method_69_code, exceptionTable := #[], attributes := #[] }
def k14m2 : Method := { name := "min", desc := "(II)I", sig := { parameters := [.int, .int], returnType := some .int }, accessFlags := 9, code := some k14c2 }
/-- java/lang/Math -/
def k14 : Class := { plain "java/lang/Math" (some 0) with
  accessFlags := 49
  interfaces := #[]
  cf := some (fileOf pool14 1 #[.nestMembers #[98]] #[{ accessFlags := 2, nameIndex := 7, descriptorIndex := 8, attributes := #[] }, { accessFlags := 9, nameIndex := 198, descriptorIndex := 335, attributes := #[] }, { accessFlags := 9, nameIndex := 201, descriptorIndex := 335, attributes := #[] }] 49 4 #[] #[{ accessFlags := 25, nameIndex := 354, descriptorIndex := 339, attributes := #[] }, { accessFlags := 25, nameIndex := 358, descriptorIndex := 339, attributes := #[] }, { accessFlags := 25, nameIndex := 361, descriptorIndex := 339, attributes := #[] }, { accessFlags := 26, nameIndex := 364, descriptorIndex := 339, attributes := #[] }, { accessFlags := 26, nameIndex := 365, descriptorIndex := 339, attributes := #[] }, { accessFlags := 26, nameIndex := 172, descriptorIndex := 173, attributes := #[] }, { accessFlags := 26, nameIndex := 176, descriptorIndex := 173, attributes := #[] }, { accessFlags := 8, nameIndex := 344, descriptorIndex := 339, attributes := #[] }, { accessFlags := 8, nameIndex := 338, descriptorIndex := 339, attributes := #[] }, { accessFlags := 4120, nameIndex := 245, descriptorIndex := 246, attributes := #[] }])
  fields := #[{ name := "E", type := .double, accessFlags := 25, slot := 0, constantValue := 0 }, { name := "PI", type := .double, accessFlags := 25, slot := 1, constantValue := 0 }, { name := "TAU", type := .double, accessFlags := 25, slot := 2, constantValue := 0 }, { name := "DEGREES_TO_RADIANS", type := .double, accessFlags := 26, slot := 3, constantValue := 0 }, { name := "RADIANS_TO_DEGREES", type := .double, accessFlags := 26, slot := 4, constantValue := 0 }, { name := "negativeZeroFloatBits", type := .long, accessFlags := 26, slot := 5, constantValue := 0 }, { name := "negativeZeroDoubleBits", type := .long, accessFlags := 26, slot := 6, constantValue := 0 }, { name := "twoToTheDoubleScaleUp", type := .double, accessFlags := 8, slot := 7, constantValue := 0 }, { name := "twoToTheDoubleScaleDown", type := .double, accessFlags := 8, slot := 8, constantValue := 0 }, { name := "$assertionsDisabled", type := .boolean, accessFlags := 4120, slot := 9, constantValue := 0 }]
  methods := #[k14m0, k14m1, k14m2]
  instanceTypes := #[]
  staticTypes := #[.double, .double, .double, .double, .double, .long, .long, .double, .double, .boolean]
  resolved := Array.replicate 460 none
  statics := none }

def pool15 : Array CpInfo := pool [(1, .methodref 2 3), (0, .class_ 4), (0, .nameAndType 5 6), (0, u "java/lang/Record"), (0, u "<init>"), (0, u "()V"), (0, .interfaceMethodref 8 9), (0, .class_ 10), (0, .nameAndType 11 12), (0, u "java/util/List"), (0, u "copyOf"), (0, u "(Ljava/util/Collection;)Ljava/util/List;"), (0, .fieldref 14 15), (0, .class_ 16), (0, .nameAndType 17 18), (0, u "com/example/skyroster/skyroster/Satellite"), (0, u "id"), (0, u "Ljava/lang/String;"), (0, .fieldref 14 20), (0, .nameAndType 21 18), (0, u "name"), (0, .fieldref 14 23), (0, .nameAndType 24 25), (0, u "payloads"), (0, u "Ljava/util/List;"), (0, .fieldref 14 27), (0, .nameAndType 28 29), (0, u "costCoefficient"), (0, u "D"), (0, .fieldref 14 31), (0, .nameAndType 32 33), (0, u "minGapS"), (0, u "J"), (0, .fieldref 14 35), (0, .nameAndType 36 33), (0, u "maxOrbitS"), (0, .fieldref 14 38), (0, .nameAndType 39 33), (0, u "maxDayS"), (0, .fieldref 14 41), (0, .nameAndType 42 25), (0, u "usedWindows"), (15, u "(Ljava/lang/String;Ljava/lang/String;Ljava/util/List;DJJJLjava/util/List;)V"), (7, u "()Ljava/util/List;"), (1, u "()D")] 29

def k15c0 : Code := { maxStack := 3, maxLocals := 13, code := prog_15_method_1_code, exceptionTable := #[], attributes := #[] }
def k15m0 : Method := { name := "<init>", desc := "(Ljava/lang/String;Ljava/lang/String;Ljava/util/List;DJJJLjava/util/List;)V", sig := { parameters := [(.object "java/lang/String"), (.object "java/lang/String"), (.object "java/util/List"), .double, .long, .long, .long, (.object "java/util/List")], returnType := none }, accessFlags := 1, code := some k15c0 }
def k15c1 : Code := { maxStack := 2, maxLocals := 1, code := prog_15_method_8_code, exceptionTable := #[], attributes := #[] }
def k15m1 : Method := { name := "costCoefficient", desc := "()D", sig := { parameters := [], returnType := some .double }, accessFlags := 1, code := some k15c1 }
def k15c2 : Code := { maxStack := 1, maxLocals := 1, code := prog_15_method_12_code, exceptionTable := #[], attributes := #[] }
def k15m2 : Method := { name := "usedWindows", desc := "()Ljava/util/List;", sig := { parameters := [], returnType := some (.object "java/util/List") }, accessFlags := 1, code := some k15c2 }
/-- com/example/skyroster/skyroster/Satellite -/
def k15 : Class := { plain "com/example/skyroster/skyroster/Satellite" (some 2) with
  accessFlags := 49
  interfaces := #[]
  cf := some (fileOf pool15 14 #[] #[{ accessFlags := 1, nameIndex := 5, descriptorIndex := 58, attributes := #[] }, { accessFlags := 1, nameIndex := 28, descriptorIndex := 68, attributes := #[] }, { accessFlags := 1, nameIndex := 42, descriptorIndex := 66, attributes := #[] }] 49 2 #[] #[{ accessFlags := 18, nameIndex := 17, descriptorIndex := 18, attributes := #[] }, { accessFlags := 18, nameIndex := 21, descriptorIndex := 18, attributes := #[] }, { accessFlags := 18, nameIndex := 24, descriptorIndex := 25, attributes := #[] }, { accessFlags := 18, nameIndex := 28, descriptorIndex := 29, attributes := #[] }, { accessFlags := 18, nameIndex := 32, descriptorIndex := 33, attributes := #[] }, { accessFlags := 18, nameIndex := 36, descriptorIndex := 33, attributes := #[] }, { accessFlags := 18, nameIndex := 39, descriptorIndex := 33, attributes := #[] }, { accessFlags := 18, nameIndex := 42, descriptorIndex := 25, attributes := #[] }])
  fields := #[{ name := "id", type := (.object "java/lang/String"), accessFlags := 18, slot := 0, constantValue := 0 }, { name := "name", type := (.object "java/lang/String"), accessFlags := 18, slot := 1, constantValue := 0 }, { name := "payloads", type := (.object "java/util/List"), accessFlags := 18, slot := 2, constantValue := 0 }, { name := "costCoefficient", type := .double, accessFlags := 18, slot := 3, constantValue := 0 }, { name := "minGapS", type := .long, accessFlags := 18, slot := 4, constantValue := 0 }, { name := "maxOrbitS", type := .long, accessFlags := 18, slot := 5, constantValue := 0 }, { name := "maxDayS", type := .long, accessFlags := 18, slot := 6, constantValue := 0 }, { name := "usedWindows", type := (.object "java/util/List"), accessFlags := 18, slot := 7, constantValue := 0 }]
  methods := #[k15m0, k15m1, k15m2]
  instanceTypes := #[(.object "java/lang/String"), (.object "java/lang/String"), (.object "java/util/List"), .double, .long, .long, .long, (.object "java/util/List")]
  staticTypes := #[]
  resolved := Array.replicate 98 none
  statics := none }

def pool16 : Array CpInfo := pool [(1, .class_ 2), (0, u "java/lang/Comparable"), (0, .class_ 4), (0, u "java/lang/Object")] 7

/-- java/lang/Comparable -/
def k16 : Class := { plain "java/lang/Comparable" (some 0) with
  accessFlags := 1537
  interfaces := #[]
  cf := some (fileOf pool16 1 #[] #[] 1537 3 #[] #[])
  fields := #[]
  methods := #[]
  instanceTypes := #[]
  staticTypes := #[]
  resolved := Array.replicate 12 none
  statics := none }

def pool17 : Array CpInfo := pool [(2, .class_ 4), (1, u "java/lang/CharSequence"), (42, .class_ 48), (0, u "java/lang/CharSequence$1CodePointIterator"), (10, .class_ 60), (0, u "java/lang/CharSequence$1CharIterator"), (5, .class_ 67), (0, u "java/lang/Object")] 63

/-- java/lang/CharSequence -/
def k17 : Class := { plain "java/lang/CharSequence" (some 0) with
  accessFlags := 1537
  interfaces := #[]
  cf := some (fileOf pool17 2 #[.nestMembers #[47, 59]] #[] 1537 66 #[] #[])
  fields := #[]
  methods := #[]
  instanceTypes := #[]
  staticTypes := #[]
  resolved := Array.replicate 131 none
  statics := none }

def pool18 : Array CpInfo := pool [(1, .class_ 2), (0, u "java/lang/constant/Constable"), (0, .class_ 4), (0, u "java/lang/Object")] 6

/-- java/lang/constant/Constable -/
def k18 : Class := { plain "java/lang/constant/Constable" (some 0) with
  accessFlags := 1537
  interfaces := #[]
  cf := some (fileOf pool18 1 #[] #[] 1537 3 #[] #[])
  fields := #[]
  methods := #[]
  instanceTypes := #[]
  staticTypes := #[]
  resolved := Array.replicate 11 none
  statics := none }

def pool19 : Array CpInfo := pool [(1, .class_ 2), (0, u "java/lang/constant/ConstantDesc"), (0, .class_ 4), (0, u "java/lang/Object")] 32

/-- java/lang/constant/ConstantDesc -/
def k19 : Class := { plain "java/lang/constant/ConstantDesc" (some 0) with
  accessFlags := 1537
  interfaces := #[]
  cf := some (fileOf pool19 1 #[] #[] 1537 3 #[] #[])
  fields := #[]
  methods := #[]
  instanceTypes := #[]
  staticTypes := #[]
  resolved := Array.replicate 37 none
  statics := none }

def pool20 : Array CpInfo := pool [(2, .class_ 4), (1, u "java/lang/Object"), (0, u "<init>"), (0, u "()V"), (3, .class_ 12), (1, u "java/lang/String"), (0, u "value"), (0, u "[B"), (2, u "coder"), (0, u "B"), (2, u "hash"), (0, u "I"), (2, u "hashIsZero"), (0, u "Z"), (13, u "COMPACT_STRINGS"), (534, .class_ 576), (0, u "java/lang/CharSequence"), (22, u "CASE_INSENSITIVE_ORDER"), (0, u "Ljava/util/Comparator;"), (500, u "serialPersistentFields"), (0, u "[Ljava/io/ObjectStreamField;"), (0, .class_ 1104), (0, u "java/lang/String$CaseInsensitiveComparator"), (1, .class_ 1107), (0, u "java/io/Serializable"), (0, .class_ 1109), (0, u "java/lang/Comparable"), (0, .class_ 1111), (0, u "java/lang/constant/Constable"), (0, .class_ 1113), (0, u "java/lang/constant/ConstantDesc"), (2, u "serialVersionUID"), (0, u "J"), (3, u "REPL"), (0, u "C"), (2, u "LATIN1"), (1, u "UTF16")] 323

def k20m0 : Method := { name := "<init>", desc := "()V", sig := { parameters := [], returnType := none }, accessFlags := 1, code := none }
/-- java/lang/String -/
def k20 : Class := { plain "java/lang/String" (some 0) with
  accessFlags := 49
  interfaces := #[12, 16, 17, 18, 19]
  cf := some (fileOf pool20 10 #[.nestMembers #[1103]] #[{ accessFlags := 1, nameIndex := 5, descriptorIndex := 6, attributes := #[] }] 49 2 #[1106, 1108, 575, 1110, 1112] #[{ accessFlags := 18, nameIndex := 13, descriptorIndex := 14, attributes := #[] }, { accessFlags := 18, nameIndex := 17, descriptorIndex := 18, attributes := #[] }, { accessFlags := 2, nameIndex := 21, descriptorIndex := 22, attributes := #[] }, { accessFlags := 2, nameIndex := 25, descriptorIndex := 26, attributes := #[] }, { accessFlags := 26, nameIndex := 1116, descriptorIndex := 1117, attributes := #[] }, { accessFlags := 24, nameIndex := 40, descriptorIndex := 26, attributes := #[] }, { accessFlags := 26, nameIndex := 1101, descriptorIndex := 1102, attributes := #[] }, { accessFlags := 26, nameIndex := 1121, descriptorIndex := 1122, attributes := #[] }, { accessFlags := 25, nameIndex := 599, descriptorIndex := 600, attributes := #[] }, { accessFlags := 24, nameIndex := 1125, descriptorIndex := 18, attributes := #[] }, { accessFlags := 24, nameIndex := 1127, descriptorIndex := 18, attributes := #[] }])
  fields := #[{ name := "value", type := (.array .byte), accessFlags := 18, slot := 0, constantValue := 0 }, { name := "coder", type := .byte, accessFlags := 18, slot := 1, constantValue := 0 }, { name := "hash", type := .int, accessFlags := 2, slot := 2, constantValue := 0 }, { name := "hashIsZero", type := .boolean, accessFlags := 2, slot := 3, constantValue := 0 }, { name := "serialVersionUID", type := .long, accessFlags := 26, slot := 0, constantValue := 0 }, { name := "COMPACT_STRINGS", type := .boolean, accessFlags := 24, slot := 1, constantValue := 0 }, { name := "serialPersistentFields", type := (.array (.object "java/io/ObjectStreamField")), accessFlags := 26, slot := 2, constantValue := 0 }, { name := "REPL", type := .char, accessFlags := 26, slot := 3, constantValue := 0 }, { name := "CASE_INSENSITIVE_ORDER", type := (.object "java/util/Comparator"), accessFlags := 25, slot := 4, constantValue := 0 }, { name := "LATIN1", type := .byte, accessFlags := 24, slot := 5, constantValue := 0 }, { name := "UTF16", type := .byte, accessFlags := 24, slot := 6, constantValue := 0 }]
  methods := #[k20m0]
  instanceTypes := #[(.array .byte), .byte, .int, .boolean]
  staticTypes := #[.long, .boolean, (.array (.object "java/io/ObjectStreamField")), .char, (.object "java/util/Comparator"), .byte, .byte]
  resolved := Array.replicate 1451 none
  statics := none }

def pool21 : Array CpInfo := pool [(2, .class_ 4), (1, u "java/lang/Object"), (0, u "<init>"), (0, u "()V"), (3, .class_ 11), (0, u "java/util/ImmutableCollections$List12"), (0, .class_ 13), (0, u "java/util/ImmutableCollections$ListN"), (3, u "Z"), (0, .class_ 19), (0, u "java/util/List"), (0, .interfaceMethodref 21 22), (0, .class_ 23), (0, .nameAndType 24 25), (0, u "java/util/Collection"), (0, u "isEmpty"), (0, u "()Z"), (0, .interfaceMethodref 18 27), (0, .nameAndType 28 29), (0, u "of"), (0, u "()Ljava/util/List;"), (0, .interfaceMethodref 21 31), (0, .nameAndType 32 33), (0, u "toArray"), (0, u "()[Ljava/lang/Object;"), (0, .interfaceMethodref 18 35), (0, .nameAndType 28 36), (0, u "([Ljava/lang/Object;)Ljava/util/List;"), (0, .methodref 38 39), (0, .class_ 40), (0, .nameAndType 41 42), (0, u "java/util/Objects"), (0, u "requireNonNull"), (0, u "(Ljava/lang/Object;)Ljava/lang/Object;"), (0, .methodref 12 44), (0, .nameAndType 5 45), (0, u "([Ljava/lang/Object;Z)V"), (1, .class_ 49), (1, u "java/util/ImmutableCollections"), (0, u "$assertionsDisabled"), (5, u "[Ljava/lang/Object;"), (5, u "EMPTY_LIST"), (0, u "Ljava/util/ImmutableCollections$ListN;"), (8, u "EMPTY_LIST_NULLS"), (22, u "SALT32L"), (0, u "J"), (2, u "REVERSE"), (6, u "archivedObjects"), (2, u "EMPTY"), (0, u "Ljava/lang/Object;"), (0, .class_ 112), (0, u "java/util/ImmutableCollections$SetN"), (5, u "EMPTY_SET"), (0, u "Ljava/util/ImmutableCollections$SetN;"), (0, .class_ 121), (0, u "java/util/ImmutableCollections$MapN"), (3, u "EMPTY_MAP"), (0, u "Ljava/util/ImmutableCollections$MapN;"), (4, u "EXPAND_FACTOR"), (0, u "I"), (9, u "listCopy"), (0, u "(Ljava/util/Collection;)Ljava/util/List;"), (7, u "listFromArray"), (17, .class_ 170), (0, u "java/util/ImmutableCollections$MapN$MapNIterator"), (0, .class_ 172), (0, u "java/util/ImmutableCollections$MapN$1"), (0, .class_ 174), (0, u "java/util/ImmutableCollections$Map1"), (0, .class_ 176), (0, u "java/util/ImmutableCollections$AbstractImmutableMap"), (0, .class_ 178), (0, u "java/util/ImmutableCollections$SetN$SetNIterator"), (0, .class_ 180), (0, u "java/util/ImmutableCollections$Set12"), (0, .class_ 182), (0, u "java/util/ImmutableCollections$Set12$1"), (0, .class_ 184), (0, u "java/util/ImmutableCollections$AbstractImmutableSet"), (0, .class_ 186), (0, u "java/util/ImmutableCollections$SubList"), (0, .class_ 188), (0, u "java/util/ImmutableCollections$ListItr"), (0, .class_ 190), (0, u "java/util/ImmutableCollections$AbstractImmutableList"), (0, .class_ 192), (0, u "java/util/ImmutableCollections$AbstractImmutableCollection"), (0, .class_ 194), (0, u "java/util/ImmutableCollections$Access"), (0, .class_ 196), (0, u "java/util/ImmutableCollections$Access$1")] 16

def k21m0 : Method := { name := "<init>", desc := "()V", sig := { parameters := [], returnType := none }, accessFlags := 2, code := none }
def k21c1 : Code := { maxStack := 1, maxLocals := 2, code := jdk_56_method_3_code, exceptionTable := #[], attributes := #[] }
def k21m1 : Method := { name := "listCopy", desc := "(Ljava/util/Collection;)Ljava/util/List;", sig := { parameters := [(.object "java/util/Collection")], returnType := some (.object "java/util/List") }, accessFlags := 8, code := some k21c1 }
def k21c2 : Code := { maxStack := 4, maxLocals := 3, code := jdk_56_method_4_code, exceptionTable := #[], attributes := #[] }
def k21m2 : Method := { name := "listFromArray", desc := "([Ljava/lang/Object;)Ljava/util/List;", sig := { parameters := [(.array (.object "java/lang/Object"))], returnType := some (.object "java/util/List") }, accessFlags := 136, code := some k21c2 }
/-- java/util/ImmutableCollections -/
def k21 : Class := { plain "java/util/ImmutableCollections" (some 0) with
  accessFlags := 32
  interfaces := #[]
  cf := some (fileOf pool21 47 #[.nestMembers #[120, 169, 171, 173, 175, 111, 177, 179, 181, 183, 12, 10, 185, 187, 189, 191, 193, 195]] #[{ accessFlags := 2, nameIndex := 5, descriptorIndex := 6, attributes := #[] }, { accessFlags := 8, nameIndex := 142, descriptorIndex := 143, attributes := #[] }, { accessFlags := 136, nameIndex := 151, descriptorIndex := 36, attributes := #[] }] 32 2 #[] #[{ accessFlags := 26, nameIndex := 95, descriptorIndex := 96, attributes := #[] }, { accessFlags := 26, nameIndex := 99, descriptorIndex := 17, attributes := #[] }, { accessFlags := 10, nameIndex := 106, descriptorIndex := 56, attributes := #[] }, { accessFlags := 26, nameIndex := 109, descriptorIndex := 110, attributes := #[] }, { accessFlags := 24, nameIndex := 62, descriptorIndex := 63, attributes := #[] }, { accessFlags := 24, nameIndex := 72, descriptorIndex := 63, attributes := #[] }, { accessFlags := 24, nameIndex := 118, descriptorIndex := 119, attributes := #[] }, { accessFlags := 24, nameIndex := 125, descriptorIndex := 126, attributes := #[] }, { accessFlags := 24, nameIndex := 131, descriptorIndex := 132, attributes := #[] }, { accessFlags := 4120, nameIndex := 50, descriptorIndex := 17, attributes := #[] }])
  fields := #[{ name := "SALT32L", type := .long, accessFlags := 26, slot := 0, constantValue := 0 }, { name := "REVERSE", type := .boolean, accessFlags := 26, slot := 1, constantValue := 0 }, { name := "archivedObjects", type := (.array (.object "java/lang/Object")), accessFlags := 10, slot := 2, constantValue := 0 }, { name := "EMPTY", type := (.object "java/lang/Object"), accessFlags := 26, slot := 3, constantValue := 0 }, { name := "EMPTY_LIST", type := (.object "java/util/ImmutableCollections$ListN"), accessFlags := 24, slot := 4, constantValue := 0 }, { name := "EMPTY_LIST_NULLS", type := (.object "java/util/ImmutableCollections$ListN"), accessFlags := 24, slot := 5, constantValue := 0 }, { name := "EMPTY_SET", type := (.object "java/util/ImmutableCollections$SetN"), accessFlags := 24, slot := 6, constantValue := 0 }, { name := "EMPTY_MAP", type := (.object "java/util/ImmutableCollections$MapN"), accessFlags := 24, slot := 7, constantValue := 0 }, { name := "EXPAND_FACTOR", type := .int, accessFlags := 24, slot := 8, constantValue := 0 }, { name := "$assertionsDisabled", type := .boolean, accessFlags := 4120, slot := 9, constantValue := 0 }]
  methods := #[k21m0, k21m1, k21m2]
  instanceTypes := #[]
  staticTypes := #[.long, .boolean, (.array (.object "java/lang/Object")), (.object "java/lang/Object"), (.object "java/util/ImmutableCollections$ListN"), (.object "java/util/ImmutableCollections$ListN"), (.object "java/util/ImmutableCollections$SetN"), (.object "java/util/ImmutableCollections$MapN"), .int, .boolean]
  resolved := Array.replicate 213 none
  statics := some 1 }

def pool22 : Array CpInfo := pool [(1, .methodref 2 3), (0, .class_ 4), (0, .nameAndType 5 6), (0, u "java/util/AbstractCollection"), (0, u "<init>"), (0, u "()V"), (1, .class_ 10), (1, u "java/util/ImmutableCollections"), (2, .class_ 14), (0, u "java/util/ImmutableCollections$AbstractImmutableCollection")] 41

def k22c0 : Code := { maxStack := 1, maxLocals := 1, code := jdk_47_method_1_code, exceptionTable := #[], attributes := #[] }
def k22m0 : Method := { name := "<init>", desc := "()V", sig := { parameters := [], returnType := none }, accessFlags := 0, code := some k22c0 }
/-- java/util/ImmutableCollections$AbstractImmutableCollection -/
def k22 : Class := { plain "java/util/ImmutableCollections$AbstractImmutableCollection" (some 6) with
  accessFlags := 1056
  interfaces := #[]
  cf := some (fileOf pool22 13 #[.nestHost 8] #[{ accessFlags := 0, nameIndex := 5, descriptorIndex := 6, attributes := #[] }] 1056 2 #[] #[])
  fields := #[]
  methods := #[k22m0]
  instanceTypes := #[]
  staticTypes := #[]
  resolved := Array.replicate 56 none
  statics := none }

def pool23 : Array CpInfo := pool [(1, .methodref 2 3), (0, .class_ 4), (0, .nameAndType 5 6), (0, u "java/util/ImmutableCollections$AbstractImmutableCollection"), (0, u "<init>"), (0, u "()V"), (1, .class_ 10), (1, u "java/util/ImmutableCollections"), (3, .class_ 16), (1, u "java/util/ImmutableCollections$AbstractImmutableList"), (60, .class_ 78), (0, u "java/util/List"), (45, .class_ 125), (0, u "java/util/RandomAccess")] 70

def k23c0 : Code := { maxStack := 1, maxLocals := 1, code := jdk_46_method_1_code, exceptionTable := #[], attributes := #[] }
def k23m0 : Method := { name := "<init>", desc := "()V", sig := { parameters := [], returnType := none }, accessFlags := 0, code := some k23c0 }
/-- java/util/ImmutableCollections$AbstractImmutableList -/
def k23 : Class := { plain "java/util/ImmutableCollections$AbstractImmutableList" (some 22) with
  accessFlags := 1056
  interfaces := #[8, 10]
  cf := some (fileOf pool23 14 #[.nestHost 8] #[{ accessFlags := 0, nameIndex := 5, descriptorIndex := 6, attributes := #[] }] 1056 2 #[77, 124] #[])
  fields := #[]
  methods := #[k23m0]
  instanceTypes := #[]
  staticTypes := #[]
  resolved := Array.replicate 196 none
  statics := none }

def pool24 : Array CpInfo := pool [(1, .methodref 2 3), (0, .class_ 4), (0, .nameAndType 5 6), (0, u "java/util/ImmutableCollections$AbstractImmutableList"), (0, u "<init>"), (0, u "()V"), (0, .methodref 8 9), (0, .class_ 10), (0, .nameAndType 11 12), (0, u "java/util/Objects"), (0, u "requireNonNull"), (0, u "(Ljava/lang/Object;)Ljava/lang/Object;"), (0, .fieldref 14 15), (0, .class_ 16), (0, .nameAndType 17 18), (0, u "java/util/ImmutableCollections$List12"), (0, u "e0"), (0, u "Ljava/lang/Object;"), (0, .fieldref 20 21), (0, .class_ 22), (0, .nameAndType 23 18), (0, u "java/util/ImmutableCollections"), (0, u "EMPTY"), (0, .fieldref 14 25), (0, .nameAndType 26 18), (0, u "e1"), (24, u "size"), (0, u "()I"), (17, .class_ 71), (0, u "java/io/Serializable"), (4, u "(Ljava/lang/Object;)V"), (8, u "(Ljava/lang/Object;Ljava/lang/Object;)V")] 39

def k24c0 : Code := { maxStack := 2, maxLocals := 2, code := jdk_44_method_1_code, exceptionTable := #[], attributes := #[] }
def k24m0 : Method := { name := "<init>", desc := "(Ljava/lang/Object;)V", sig := { parameters := [(.object "java/lang/Object")], returnType := none }, accessFlags := 0, code := some k24c0 }
def k24c1 : Code := { maxStack := 2, maxLocals := 3, code := jdk_44_method_2_code, exceptionTable := #[], attributes := #[] }
def k24m1 : Method := { name := "<init>", desc := "(Ljava/lang/Object;Ljava/lang/Object;)V", sig := { parameters := [(.object "java/lang/Object"), (.object "java/lang/Object")], returnType := none }, accessFlags := 0, code := some k24c1 }
def k24c2 : Code := { maxStack := 2, maxLocals := 1, code := jdk_44_method_3_code, exceptionTable := #[], attributes := #[] }
def k24m2 : Method := { name := "size", desc := "()I", sig := { parameters := [], returnType := some .int }, accessFlags := 1, code := some k24c2 }
/-- java/util/ImmutableCollections$List12 -/
def k24 : Class := { plain "java/util/ImmutableCollections$List12" (some 23) with
  accessFlags := 48
  interfaces := #[12]
  cf := some (fileOf pool24 14 #[.nestHost 20] #[{ accessFlags := 0, nameIndex := 5, descriptorIndex := 76, attributes := #[] }, { accessFlags := 0, nameIndex := 5, descriptorIndex := 85, attributes := #[] }, { accessFlags := 1, nameIndex := 51, descriptorIndex := 52, attributes := #[] }] 48 2 #[70] #[{ accessFlags := 18, nameIndex := 17, descriptorIndex := 18, attributes := #[] }, { accessFlags := 18, nameIndex := 26, descriptorIndex := 18, attributes := #[] }])
  fields := #[{ name := "e0", type := (.object "java/lang/Object"), accessFlags := 18, slot := 0, constantValue := 0 }, { name := "e1", type := (.object "java/lang/Object"), accessFlags := 18, slot := 1, constantValue := 0 }]
  methods := #[k24m0, k24m1, k24m2]
  instanceTypes := #[(.object "java/lang/Object"), (.object "java/lang/Object")]
  staticTypes := #[]
  resolved := Array.replicate 125 none
  statics := none }

def pool25 : Array CpInfo := pool [(1, .methodref 2 3), (0, .class_ 4), (0, .nameAndType 5 6), (0, u "java/util/ImmutableCollections$AbstractImmutableList"), (0, u "<init>"), (0, u "()V"), (0, .fieldref 8 9), (0, .class_ 10), (0, .nameAndType 11 12), (0, u "java/util/ImmutableCollections$ListN"), (0, u "elements"), (0, u "[Ljava/lang/Object;"), (0, .fieldref 8 14), (0, .nameAndType 15 16), (0, u "allowNulls"), (0, u "Z"), (42, .class_ 60), (0, u "java/io/Serializable"), (4, u "([Ljava/lang/Object;Z)V"), (11, u "size"), (0, u "()I"), (35, .class_ 115), (0, u "java/util/ImmutableCollections")] 3

def k25c0 : Code := { maxStack := 2, maxLocals := 3, code := jdk_45_method_1_code, exceptionTable := #[], attributes := #[] }
def k25m0 : Method := { name := "<init>", desc := "([Ljava/lang/Object;Z)V", sig := { parameters := [(.array (.object "java/lang/Object")), .boolean], returnType := none }, accessFlags := 2, code := some k25c0 }
def k25c1 : Code := { maxStack := 1, maxLocals := 1, code := jdk_45_method_3_code, exceptionTable := #[], attributes := #[] }
def k25m1 : Method := { name := "size", desc := "()I", sig := { parameters := [], returnType := some .int }, accessFlags := 1, code := some k25c1 }
/-- java/util/ImmutableCollections$ListN -/
def k25 : Class := { plain "java/util/ImmutableCollections$ListN" (some 23) with
  accessFlags := 48
  interfaces := #[12]
  cf := some (fileOf pool25 8 #[.nestHost 114] #[{ accessFlags := 2, nameIndex := 5, descriptorIndex := 65, attributes := #[] }, { accessFlags := 1, nameIndex := 77, descriptorIndex := 78, attributes := #[] }] 48 2 #[59] #[{ accessFlags := 18, nameIndex := 11, descriptorIndex := 12, attributes := #[] }, { accessFlags := 18, nameIndex := 15, descriptorIndex := 16, attributes := #[] }])
  fields := #[{ name := "elements", type := (.array (.object "java/lang/Object")), accessFlags := 18, slot := 0, constantValue := 0 }, { name := "allowNulls", type := .boolean, accessFlags := 18, slot := 1, constantValue := 0 }]
  methods := #[k25m0, k25m1]
  instanceTypes := #[(.array (.object "java/lang/Object")), .boolean]
  staticTypes := #[]
  resolved := Array.replicate 119 none
  statics := none }

def pool26 : Array CpInfo := pool [(2, .class_ 4), (1, u "java/lang/Object"), (0, u "<init>"), (0, u "()V"), (7, .class_ 16), (1, u "java/util/Arrays"), (57, .class_ 76), (1, u "java/util/Arrays$NaturalOrder"), (9, .methodref 2 87), (0, .nameAndType 88 89), (0, u "getClass"), (0, u "()Ljava/lang/Class;"), (20, .class_ 111), (0, u "[Ljava/lang/Object;"), (1, .class_ 115), (1, u "java/util/Arrays$LegacyMergeSort"), (1, u "Z"), (32, .methodref 151 152), (0, .class_ 153), (0, .nameAndType 154 155), (0, u "java/lang/System"), (0, u "arraycopy"), (0, u "(Ljava/lang/Object;ILjava/lang/Object;II)V"), (144, .methodref 14 301), (0, .nameAndType 302 303), (0, u "copyOf"), (0, u "([Ljava/lang/Object;ILjava/lang/Class;)[Ljava/lang/Object;"), (0, .methodref 305 306), (0, .class_ 307), (0, .nameAndType 308 309), (0, u "java/lang/Math"), (0, u "min"), (0, u "(II)I"), (65, .class_ 376), (0, u "java/util/Arrays$ArrayList"), (68, u "$assertionsDisabled"), (269, u "MIN_ARRAY_SORT_GRAN"), (0, u "I"), (2, u "INSERTIONSORT_THRESHOLD"), (140, u "([Ljava/lang/Object;I)[Ljava/lang/Object;"), (114, .class_ 976), (0, u "java/util/Arrays$ArrayItr")] 52

def k26m0 : Method := { name := "<init>", desc := "()V", sig := { parameters := [], returnType := none }, accessFlags := 2, code := none }
def k26c1 : Code := { maxStack := 3, maxLocals := 2, code := jdk_65_method_119_code, exceptionTable := #[], attributes := #[] }
def k26m1 : Method := { name := "copyOf", desc := "([Ljava/lang/Object;I)[Ljava/lang/Object;", sig := { parameters := [(.array (.object "java/lang/Object")), .int], returnType := some (.array (.object "java/lang/Object")) }, accessFlags := 9, code := some k26c1 }
def k26c2 : Code := { maxStack := 6, maxLocals := 4, code := jdk_65_method_120_code, exceptionTable := #[], attributes := #[] }
def k26m2 : Method := { name := "copyOf", desc := "([Ljava/lang/Object;ILjava/lang/Class;)[Ljava/lang/Object;", sig := { parameters := [(.array (.object "java/lang/Object")), .int, (.object "java/lang/Class")], returnType := some (.array (.object "java/lang/Object")) }, accessFlags := 9, code := some k26c2 }
/-- java/util/Arrays -/
def k26 : Class := { plain "java/util/Arrays" (some 0) with
  accessFlags := 49
  interfaces := #[]
  cf := some (fileOf pool26 14 #[.nestMembers #[975, 375, 113, 74]] #[{ accessFlags := 2, nameIndex := 5, descriptorIndex := 6, attributes := #[] }, { accessFlags := 9, nameIndex := 302, descriptorIndex := 860, attributes := #[] }, { accessFlags := 9, nameIndex := 302, descriptorIndex := 303, attributes := #[] }] 49 2 #[] #[{ accessFlags := 26, nameIndex := 715, descriptorIndex := 716, attributes := #[] }, { accessFlags := 26, nameIndex := 719, descriptorIndex := 716, attributes := #[] }, { accessFlags := 4120, nameIndex := 445, descriptorIndex := 117, attributes := #[] }])
  fields := #[{ name := "MIN_ARRAY_SORT_GRAN", type := .int, accessFlags := 26, slot := 0, constantValue := 0 }, { name := "INSERTIONSORT_THRESHOLD", type := .int, accessFlags := 26, slot := 1, constantValue := 0 }, { name := "$assertionsDisabled", type := .boolean, accessFlags := 4120, slot := 2, constantValue := 0 }]
  methods := #[k26m0, k26m1, k26m2]
  instanceTypes := #[]
  staticTypes := #[.int, .int, .boolean]
  resolved := Array.replicate 1029 none
  statics := none }

def pool27 : Array CpInfo := pool [(2, .class_ 4), (1, u "java/lang/Object"), (0, u "<init>"), (0, u "()V"), (1, .class_ 10), (1, u "java/lang/System"), (0, u "allowSecurityManager"), (0, u "I"), (16, u "cons"), (0, u "Ljava/io/Console;"), (77, .class_ 110), (1, u "java/lang/System$CallersHolder"), (43, u "initialErrStream"), (0, u "Ljava/io/PrintStream;"), (19, u "security"), (0, u "Ljava/lang/SecurityManager;"), (31, .class_ 209), (0, u "java/lang/System$1"), (7, u "props"), (0, u "Ljava/util/Properties;"), (2, u "lineSeparator"), (0, u "Ljava/lang/String;"), (96, .class_ 321), (1, u "java/lang/System$LoggerFinder"), (5, .class_ 328), (0, u "java/lang/System$Logger"), (67, u "err"), (2, u "out"), (91, u "notSupportedJnuEncoding"), (15, u "in"), (17, u "initialIn"), (0, u "Ljava/io/InputStream;"), (35, u "bootLayer"), (0, u "Ljava/lang/ModuleLayer;"), (99, .class_ 664), (0, u "java/lang/System$2"), (9, u "NEVER"), (2, u "MAYBE"), (49, u "arraycopy"), (0, u "(Ljava/lang/Object;ILjava/lang/Object;II)V"), (72, .class_ 802), (0, u "java/lang/System$Logger$Level")] 31

def k27m0 : Method := { name := "<init>", desc := "()V", sig := { parameters := [], returnType := none }, accessFlags := 2, code := none }
def k27m1 : Method := { name := "arraycopy", desc := "(Ljava/lang/Object;ILjava/lang/Object;II)V", sig := { parameters := [(.object "java/lang/Object"), .int, (.object "java/lang/Object"), .int, .int], returnType := none }, accessFlags := 265, code := none }
/-- java/lang/System -/
def k27 : Class := { plain "java/lang/System" (some 0) with
  accessFlags := 49
  interfaces := #[]
  cf := some (fileOf pool27 8 #[.nestMembers #[319, 327, 801, 108, 663, 208]] #[{ accessFlags := 2, nameIndex := 5, descriptorIndex := 6, attributes := #[] }, { accessFlags := 265, nameIndex := 727, descriptorIndex := 728, attributes := #[] }] 49 2 #[] #[{ accessFlags := 25, nameIndex := 507, descriptorIndex := 526, attributes := #[] }, { accessFlags := 25, nameIndex := 399, descriptorIndex := 155, attributes := #[] }, { accessFlags := 25, nameIndex := 396, descriptorIndex := 155, attributes := #[] }, { accessFlags := 10, nameIndex := 525, descriptorIndex := 526, attributes := #[] }, { accessFlags := 26, nameIndex := 674, descriptorIndex := 12, attributes := #[] }, { accessFlags := 26, nameIndex := 677, descriptorIndex := 12, attributes := #[] }, { accessFlags := 10, nameIndex := 11, descriptorIndex := 12, attributes := #[] }, { accessFlags := 74, nameIndex := 175, descriptorIndex := 176, attributes := #[] }, { accessFlags := 10, nameIndex := 491, descriptorIndex := 222, attributes := #[] }, { accessFlags := 74, nameIndex := 29, descriptorIndex := 30, attributes := #[] }, { accessFlags := 74, nameIndex := 154, descriptorIndex := 155, attributes := #[] }, { accessFlags := 10, nameIndex := 217, descriptorIndex := 218, attributes := #[] }, { accessFlags := 10, nameIndex := 221, descriptorIndex := 222, attributes := #[] }, { accessFlags := 8, nameIndex := 562, descriptorIndex := 563, attributes := #[] }])
  fields := #[{ name := "in", type := (.object "java/io/InputStream"), accessFlags := 25, slot := 0, constantValue := 0 }, { name := "out", type := (.object "java/io/PrintStream"), accessFlags := 25, slot := 1, constantValue := 0 }, { name := "err", type := (.object "java/io/PrintStream"), accessFlags := 25, slot := 2, constantValue := 0 }, { name := "initialIn", type := (.object "java/io/InputStream"), accessFlags := 10, slot := 3, constantValue := 0 }, { name := "NEVER", type := .int, accessFlags := 26, slot := 4, constantValue := 0 }, { name := "MAYBE", type := .int, accessFlags := 26, slot := 5, constantValue := 0 }, { name := "allowSecurityManager", type := .int, accessFlags := 10, slot := 6, constantValue := 0 }, { name := "security", type := (.object "java/lang/SecurityManager"), accessFlags := 74, slot := 7, constantValue := 0 }, { name := "notSupportedJnuEncoding", type := (.object "java/lang/String"), accessFlags := 10, slot := 8, constantValue := 0 }, { name := "cons", type := (.object "java/io/Console"), accessFlags := 74, slot := 9, constantValue := 0 }, { name := "initialErrStream", type := (.object "java/io/PrintStream"), accessFlags := 74, slot := 10, constantValue := 0 }, { name := "props", type := (.object "java/util/Properties"), accessFlags := 10, slot := 11, constantValue := 0 }, { name := "lineSeparator", type := (.object "java/lang/String"), accessFlags := 10, slot := 12, constantValue := 0 }, { name := "bootLayer", type := (.object "java/lang/ModuleLayer"), accessFlags := 8, slot := 13, constantValue := 0 }]
  methods := #[k27m0, k27m1]
  instanceTypes := #[]
  staticTypes := #[(.object "java/io/InputStream"), (.object "java/io/PrintStream"), (.object "java/io/PrintStream"), (.object "java/io/InputStream"), .int, .int, .int, (.object "java/lang/SecurityManager"), (.object "java/lang/String"), (.object "java/io/Console"), (.object "java/io/PrintStream"), (.object "java/util/Properties"), (.object "java/lang/String"), (.object "java/lang/ModuleLayer")]
  resolved := Array.replicate 834 none
  statics := none }

def pool28 : Array CpInfo := pool [(2, .class_ 4), (1, u "java/lang/Object"), (0, u "<init>"), (0, u "()V"), (35, .class_ 44), (1, u "java/util/Objects"), (0, u "requireNonNull"), (0, u "(Ljava/lang/Object;)Ljava/lang/Object;")] 137

def k28m0 : Method := { name := "<init>", desc := "()V", sig := { parameters := [], returnType := none }, accessFlags := 2, code := none }
def k28c1 : Code := { maxStack := 2, maxLocals := 1, code := jdk_31_method_10_code, exceptionTable := #[], attributes := #[] }
def k28m1 : Method := { name := "requireNonNull", desc := "(Ljava/lang/Object;)Ljava/lang/Object;", sig := { parameters := [(.object "java/lang/Object")], returnType := some (.object "java/lang/Object") }, accessFlags := 9, code := some k28c1 }
/-- java/util/Objects -/
def k28 : Class := { plain "java/util/Objects" (some 0) with
  accessFlags := 49
  interfaces := #[]
  cf := some (fileOf pool28 42 #[] #[{ accessFlags := 2, nameIndex := 5, descriptorIndex := 6, attributes := #[] }, { accessFlags := 9, nameIndex := 45, descriptorIndex := 46, attributes := #[] }] 49 2 #[] #[])
  fields := #[]
  methods := #[k28m0, k28m1]
  instanceTypes := #[]
  staticTypes := #[]
  resolved := Array.replicate 184 none
  statics := none }

def pool29 : Array CpInfo := pool [(1, .methodref 2 3), (0, .class_ 4), (0, .nameAndType 5 6), (0, u "java/lang/Object"), (0, u "<init>"), (0, u "()V"), (0, .methodref 8 9), (0, .class_ 10), (0, .nameAndType 11 12), (0, u "com/example/skyroster/skyroster/Satellite"), (0, u "costCoefficient"), (0, u "()D"), (0, .fieldref 14 15), (0, .class_ 16), (0, .nameAndType 17 18), (0, u "com/example/skyroster/skyroster/CostShare"), (0, u "coefficient"), (0, u "D"), (0, .methodref 8 20), (0, .nameAndType 21 22), (0, u "usedWindows"), (0, u "()Ljava/util/List;"), (0, .interfaceMethodref 24 25), (0, .class_ 26), (0, .nameAndType 27 28), (0, u "java/util/List"), (0, u "size"), (0, u "()I"), (0, .fieldref 14 30), (0, .nameAndType 31 32), (0, u "usedCount"), (0, u "I"), (0, .fieldref 14 34), (0, .nameAndType 35 32), (0, u "taskCount"), (0, .methodref 14 37), (0, .nameAndType 38 28), (0, u "windowCount"), (0, .fieldref 14 40), (0, .nameAndType 41 18), (0, u "taskCostSum"), (0, .fieldref 14 43), (0, .nameAndType 44 18), (0, u "cost"), (0, u "(Lcom/example/skyroster/skyroster/Satellite;)V"), (4, u "give"), (0, u "(D)V")] 4

def k29c0 : Code := { maxStack := 3, maxLocals := 2, code := prog_2_method_1_code, exceptionTable := #[], attributes := #[] }
def k29m0 : Method := { name := "<init>", desc := "(Lcom/example/skyroster/skyroster/Satellite;)V", sig := { parameters := [(.object "com/example/skyroster/skyroster/Satellite")], returnType := none }, accessFlags := 0, code := some k29c0 }
def k29c1 : Code := { maxStack := 2, maxLocals := 1, code := prog_2_method_2_code, exceptionTable := #[], attributes := #[] }
def k29m1 : Method := { name := "windowCount", desc := "()I", sig := { parameters := [], returnType := some .int }, accessFlags := 0, code := some k29c1 }
def k29c2 : Code := { maxStack := 5, maxLocals := 3, code := prog_2_method_4_code, exceptionTable := #[], attributes := #[] }
def k29m2 : Method := { name := "give", desc := "(D)V", sig := { parameters := [.double], returnType := none }, accessFlags := 0, code := some k29c2 }
/-- com/example/skyroster/skyroster/CostShare -/
def k29 : Class := { plain "com/example/skyroster/skyroster/CostShare" (some 0) with
  accessFlags := 48
  interfaces := #[]
  cf := some (fileOf pool29 14 #[] #[{ accessFlags := 0, nameIndex := 5, descriptorIndex := 45, attributes := #[] }, { accessFlags := 0, nameIndex := 38, descriptorIndex := 28, attributes := #[] }, { accessFlags := 0, nameIndex := 50, descriptorIndex := 51, attributes := #[] }] 48 2 #[] #[{ accessFlags := 16, nameIndex := 17, descriptorIndex := 18, attributes := #[] }, { accessFlags := 16, nameIndex := 31, descriptorIndex := 32, attributes := #[] }, { accessFlags := 0, nameIndex := 35, descriptorIndex := 32, attributes := #[] }, { accessFlags := 0, nameIndex := 41, descriptorIndex := 18, attributes := #[] }, { accessFlags := 0, nameIndex := 44, descriptorIndex := 18, attributes := #[] }])
  fields := #[{ name := "coefficient", type := .double, accessFlags := 16, slot := 0, constantValue := 0 }, { name := "usedCount", type := .int, accessFlags := 16, slot := 1, constantValue := 0 }, { name := "taskCount", type := .int, accessFlags := 0, slot := 2, constantValue := 0 }, { name := "taskCostSum", type := .double, accessFlags := 0, slot := 3, constantValue := 0 }, { name := "cost", type := .double, accessFlags := 0, slot := 4, constantValue := 0 }]
  methods := #[k29m0, k29m1, k29m2]
  instanceTypes := #[.double, .int, .int, .double, .double]
  staticTypes := #[]
  resolved := Array.replicate 56 none
  statics := none }

def pool30 : Array CpInfo := pool [(1, u "java/lang/Class"), (0, .class_ 1), (0, u "java/lang/Object"), (0, .class_ 3)] 3

/-- java/lang/Class -/
def k30 : Class := { plain "java/lang/Class" (some 0) with
  accessFlags := 49
  interfaces := #[]
  cf := some (fileOf pool30 2 #[] #[] 49 4 #[] #[])
  fields := #[]
  methods := #[]
  instanceTypes := #[]
  staticTypes := #[]
  resolved := Array.replicate 8 none
  statics := none }

/-- the primitive byte -/
def k31 : Class := { plain "byte" none with kind := .primitive 'B', accessFlags := 0x411 }
/-- [B -/
def k32 : Class := { plain "[B" (some 0) with kind := .array 31 .byte, interfaces := #[11, 12], accessFlags := 1041 }

/-- the primitive int -/
def k33 : Class := { plain "int" none with kind := .primitive 'I', accessFlags := 0x411 }
/-- [I -/
def k34 : Class := { plain "[I" (some 0) with kind := .array 33 .int, interfaces := #[11, 12], accessFlags := 1041 }

/-- [Ljava/lang/Object; -/
def k35 : Class := { plain "[Ljava/lang/Object;" (some 0) with mirror := some 2, kind := .array 0 (.object "java/lang/Object"), interfaces := #[11, 12], accessFlags := 1041 }

def heap : Heap := #[{ cls := 13, slots := #[.long 0, .int 0, .ref 3, .ref 4], vm := .statics 13 },
  { cls := 21, slots := #[.long 0, .int 0, .null, .ref 6, .ref 5, .null, .null, .null, .int 0, .int 1], vm := .statics 21 },
  { cls := 30, slots := #[], vm := .mirror 35 },
  { cls := 35, slots := #[], vm := .none },
  { cls := 35, slots := #[], vm := .none },
  { cls := 25, slots := #[.ref 3, .int 0], vm := .none },
  { cls := 0, slots := #[], vm := .none }]
def classes : Array Class := #[k0, k1, k2, k3, k4, k5, k6, k7, k8, k9, k10, k11, k12, k13, k14, k15, k16, k17, k18, k19, k20, k21, k22, k23, k24, k25, k26, k27, k28, k29, k30, k31, k32, k33, k34, k35]
def interned : List (Array UInt16 × Addr) := []
def slotsUsed : Nat := 16
def theMethod : MethodId := ⟨1, 1⟩
def args0 : Array Value := #[.int 1, .int 2, .int 3, .int 4]
def aboutOver (below : List Frame) : State where
  vm := { classes := classes, interned := interned.toArray }
  heap := heap
  slotsUsed := slotsUsed
  threads := #[{ frames := .invoking theMethod args0 :: below }]
def below0 : List Frame := [.native { method := ⟨0, 0⟩, args := #[] }]
def about1 : State := aboutOver below0
def p0 : Program := .bare "" "" ""
def e0 : Env := launch0.env 0 0 0
theorem w_frames : about1.frames = Frame.invoking theMethod args0 :: below0 := rfl
set_option maxRecDepth 65536 in
theorem w_args : argsFit about1.vm theMethod args0 = true := by decide +kernel
set_option maxRecDepth 65536 in
theorem w_heap : heapFits about1 = true := by decide +kernel
set_option maxRecDepth 65536 in
theorem w_runnable : about1.curStatus? = some .runnable := by decide +kernel
set_option maxRecDepth 65536 in
theorem w_alone : about1.alone = true := by decide +kernel
set_option maxRecDepth 65536 in
theorem w_named : about1.methodNamed? x = some theMethod := by decide +kernel
set_option maxRecDepth 65536 in
theorem w_hears : about1.hears theMethod below0 = true := by decide +kernel
set_option maxRecDepth 65536 in
theorem w_ripe : about1.ripe theMethod args0 below0 = true := by decide +kernel
theorem w_running : about1.status = .running := rfl
set_option maxRecDepth 65536 in
theorem w_room : about1.hasRoom e0.platform room_1 = true :=
  launch0.hasRoom_least _ room_1 (by decide +kernel) (by decide +kernel) (by decide +kernel) (by decide +kernel) (by decide +kernel) (by decide +kernel)
theorem allAtoms_all (ts : List Jvm.Cond) (a : Array Jvm.Value) (st : Jvm.State) : (allAtoms ts).before a st = ts.all (fun c => c.before a st) := by
  induction ts with
  | nil => rfl
  | cons c t ih =>
    show (Jvm.Cond.and c (allAtoms t)).before a st = _
    rw [Jvm.Cond.before_and, ih, List.all_cons]
def words1 : List Jvm.Cond := Jvm.Cond.code x code maxLocals ret :: tables_1
/-- a 'code' word, met by the world's own term for the bytes: nothing is compared byte by byte -/
theorem code_word {y : MethodName} {bytes : ByteArray} {mx : Nat} {rt : Option FieldType} {a : Array Value} {s : State} {m : MethodId} {meth : Method} {c : Code} (h1 : s.methodNamed? y = some m) (h2 : s.vm.method? m = some meth) (h3 : meth.code = some c) (h4 : c.code = bytes)
    (h5 : (c.maxLocals == mx && c.exceptionTable.isEmpty && decide (c.maxStack ≤ mostOperands) && decide (meth.sig.returnType = rt) && !meth.locks && decide (parseMethodDescriptor y.desc = some meth.sig)) = true) : (Jvm.Cond.code y bytes mx rt).before a s = true := by
  simp only [Bool.and_eq_true, beq_iff_eq, Bool.not_eq_true', decide_eq_true_eq] at h5
  obtain ⟨⟨⟨⟨⟨g1, g2⟩, g3⟩, g4⟩, g5⟩, g6⟩ := h5
  simp [Cond.before, Cond.holds, Cond.value, h1, h2, h3, h4, g1, g2, g3, g4, g5, g6]
def isCode : Jvm.Cond → Bool
  | .code _ _ _ _ => true
  | _ => false
theorem all_split {L : List Jvm.Cond} {P : Jvm.Cond → Bool} (h1 : L.all (fun c => isCode c || P c) = true) (h2 : ∀ c ∈ L.filter isCode, P c = true) : L.all P = true := by
  refine List.all_eq_true.mpr fun c hc => ?_
  have h := List.all_eq_true.mp h1 c hc
  rcases Bool.eq_false_or_eq_true (isCode c) with hi | hi
  · exact h2 c (List.mem_filter.mpr ⟨hc, hi⟩)
  · simpa [hi] using h
set_option maxRecDepth 65536 in
theorem w_c0 : (Jvm.Cond.code x code maxLocals ret).before args0 about1 = true := code_word (m := ⟨1, 1⟩) (meth := k1m1) (c := k1c1) (by decide +kernel) rfl rfl rfl (by decide +kernel)
set_option maxRecDepth 65536 in
theorem w_c1 : (Jvm.Cond.code ({ cls := "com/example/skyroster/skyroster/UsedWindow", name := "<init>", desc := "(JJJ)V" } : Jvm.MethodName) prog_24_method_1_code (7 : Nat) (Option.none : Option Jvm.ClassFile.FieldType)).before args0 about1 = true := code_word (m := ⟨3, 0⟩) (meth := k3m0) (c := k3c0) (by decide +kernel) rfl rfl rfl (by decide +kernel)
set_option maxRecDepth 65536 in
theorem w_c2 : (Jvm.Cond.code ({ cls := "java/lang/Record", name := "<init>", desc := "()V" } : Jvm.MethodName) jdk_30_method_1_code (1 : Nat) (Option.none : Option Jvm.ClassFile.FieldType)).before args0 about1 = true := code_word (m := ⟨2, 0⟩) (meth := k2m0) (c := k2c0) (by decide +kernel) rfl rfl rfl (by decide +kernel)
set_option maxRecDepth 65536 in
theorem w_c3 : (Jvm.Cond.code ({ cls := "java/lang/Object", name := "<init>", desc := "()V" } : Jvm.MethodName) object_method_1_code (1 : Nat) (Option.none : Option Jvm.ClassFile.FieldType)).before args0 about1 = true := code_word (m := ⟨0, 0⟩) (meth := k0m0) (c := k0c0) (by decide +kernel) rfl rfl rfl (by decide +kernel)
set_option maxRecDepth 65536 in
theorem w_c4 : (Jvm.Cond.code ({ cls := "java/util/ArrayList", name := "<init>", desc := "()V" } : Jvm.MethodName) jdk_38_method_2_code (1 : Nat) (Option.none : Option Jvm.ClassFile.FieldType)).before args0 about1 = true := code_word (m := ⟨13, 0⟩) (meth := k13m0) (c := k13c0) (by decide +kernel) rfl rfl rfl (by decide +kernel)
set_option maxRecDepth 65536 in
theorem w_c5 : (Jvm.Cond.code ({ cls := "java/util/AbstractList", name := "<init>", desc := "()V" } : Jvm.MethodName) jdk_39_method_1_code (1 : Nat) (Option.none : Option Jvm.ClassFile.FieldType)).before args0 about1 = true := code_word (m := ⟨9, 0⟩) (meth := k9m0) (c := k9c0) (by decide +kernel) rfl rfl rfl (by decide +kernel)
set_option maxRecDepth 65536 in
theorem w_c6 : (Jvm.Cond.code ({ cls := "java/util/AbstractCollection", name := "<init>", desc := "()V" } : Jvm.MethodName) jdk_22_method_1_code (1 : Nat) (Option.none : Option Jvm.ClassFile.FieldType)).before args0 about1 = true := code_word (m := ⟨6, 0⟩) (meth := k6m0) (c := k6c0) (by decide +kernel) rfl rfl rfl (by decide +kernel)
set_option maxRecDepth 65536 in
theorem w_c7 : (Jvm.Cond.code ({ cls := "java/util/ArrayList", name := "add", desc := "(Ljava/lang/Object;)Z" } : Jvm.MethodName) jdk_38_method_25_code (2 : Nat) (Option.some Jvm.ClassFile.FieldType.boolean)).before args0 about1 = true := code_word (m := ⟨13, 6⟩) (meth := k13m6) (c := k13c6) (by decide +kernel) rfl rfl rfl (by decide +kernel)
set_option maxRecDepth 65536 in
theorem w_c8 : (Jvm.Cond.code ({ cls := "java/util/ArrayList", name := "add", desc := "(Ljava/lang/Object;[Ljava/lang/Object;I)V" } : Jvm.MethodName) jdk_38_method_24_code (4 : Nat) (Option.none : Option Jvm.ClassFile.FieldType)).before args0 about1 = true := code_word (m := ⟨13, 5⟩) (meth := k13m5) (c := k13c5) (by decide +kernel) rfl rfl rfl (by decide +kernel)
set_option maxRecDepth 65536 in
theorem w_c9 : (Jvm.Cond.code ({ cls := "java/util/ArrayList", name := "grow", desc := "()[Ljava/lang/Object;" } : Jvm.MethodName) jdk_38_method_7_code (1 : Nat) (Option.some (Jvm.ClassFile.FieldType.array (Jvm.ClassFile.FieldType.object "java/lang/Object")))).before args0 about1 = true := code_word (m := ⟨13, 2⟩) (meth := k13m2) (c := k13c2) (by decide +kernel) rfl rfl rfl (by decide +kernel)
set_option maxRecDepth 65536 in
theorem w_c10 : (Jvm.Cond.code ({ cls := "java/util/ArrayList", name := "grow", desc := "(I)[Ljava/lang/Object;" } : Jvm.MethodName) jdk_38_method_6_code (4 : Nat) (Option.some (Jvm.ClassFile.FieldType.array (Jvm.ClassFile.FieldType.object "java/lang/Object")))).before args0 about1 = true := code_word (m := ⟨13, 1⟩) (meth := k13m1) (c := k13c1) (by decide +kernel) rfl rfl rfl (by decide +kernel)
set_option maxRecDepth 65536 in
theorem w_c11 : (Jvm.Cond.code ({ cls := "java/lang/Math", name := "max", desc := "(II)I" } : Jvm.MethodName) jdk_29_method_65_code (2 : Nat) (Option.some Jvm.ClassFile.FieldType.int)).before args0 about1 = true := code_word (m := ⟨14, 1⟩) (meth := k14m1) (c := k14c1) (by decide +kernel) rfl rfl rfl (by decide +kernel)
set_option maxRecDepth 65536 in
theorem w_c12 : (Jvm.Cond.code ({ cls := "com/example/skyroster/skyroster/Satellite", name := "<init>", desc := "(Ljava/lang/String;Ljava/lang/String;Ljava/util/List;DJJJLjava/util/List;)V" } : Jvm.MethodName) prog_15_method_1_code (13 : Nat) (Option.none : Option Jvm.ClassFile.FieldType)).before args0 about1 = true := code_word (m := ⟨15, 0⟩) (meth := k15m0) (c := k15c0) (by decide +kernel) rfl rfl rfl (by decide +kernel)
set_option maxRecDepth 65536 in
theorem w_c13 : (Jvm.Cond.code ({ cls := "java/util/List", name := "copyOf", desc := "(Ljava/util/Collection;)Ljava/util/List;" } : Jvm.MethodName) jdk_40_method_48_code (1 : Nat) (Option.some (Jvm.ClassFile.FieldType.object "java/util/List"))).before args0 about1 = true := code_word (m := ⟨8, 3⟩) (meth := k8m3) (c := k8c3) (by decide +kernel) rfl rfl rfl (by decide +kernel)
set_option maxRecDepth 65536 in
theorem w_c14 : (Jvm.Cond.code ({ cls := "java/util/ImmutableCollections", name := "listCopy", desc := "(Ljava/util/Collection;)Ljava/util/List;" } : Jvm.MethodName) jdk_56_method_3_code (2 : Nat) (Option.some (Jvm.ClassFile.FieldType.object "java/util/List"))).before args0 about1 = true := code_word (m := ⟨21, 1⟩) (meth := k21m1) (c := k21c1) (by decide +kernel) rfl rfl rfl (by decide +kernel)
set_option maxRecDepth 65536 in
theorem w_c15 : (Jvm.Cond.code ({ cls := "java/util/ArrayList", name := "isEmpty", desc := "()Z" } : Jvm.MethodName) jdk_38_method_9_code (1 : Nat) (Option.some Jvm.ClassFile.FieldType.boolean)).before args0 about1 = true := code_word (m := ⟨13, 3⟩) (meth := k13m3) (c := k13c3) (by decide +kernel) rfl rfl rfl (by decide +kernel)
set_option maxRecDepth 65536 in
theorem w_c16 : (Jvm.Cond.code ({ cls := "java/util/List", name := "of", desc := "()Ljava/util/List;" } : Jvm.MethodName) jdk_40_method_36_code (0 : Nat) (Option.some (Jvm.ClassFile.FieldType.object "java/util/List"))).before args0 about1 = true := code_word (m := ⟨8, 1⟩) (meth := k8m1) (c := k8c1) (by decide +kernel) rfl rfl rfl (by decide +kernel)
set_option maxRecDepth 65536 in
theorem w_c17 : (Jvm.Cond.code ({ cls := "java/util/ArrayList", name := "toArray", desc := "()[Ljava/lang/Object;" } : Jvm.MethodName) jdk_38_method_16_code (1 : Nat) (Option.some (Jvm.ClassFile.FieldType.array (Jvm.ClassFile.FieldType.object "java/lang/Object")))).before args0 about1 = true := code_word (m := ⟨13, 4⟩) (meth := k13m4) (c := k13c4) (by decide +kernel) rfl rfl rfl (by decide +kernel)
set_option maxRecDepth 65536 in
theorem w_c18 : (Jvm.Cond.code ({ cls := "java/util/Arrays", name := "copyOf", desc := "([Ljava/lang/Object;I)[Ljava/lang/Object;" } : Jvm.MethodName) jdk_65_method_119_code (2 : Nat) (Option.some (Jvm.ClassFile.FieldType.array (Jvm.ClassFile.FieldType.object "java/lang/Object")))).before args0 about1 = true := code_word (m := ⟨26, 1⟩) (meth := k26m1) (c := k26c1) (by decide +kernel) rfl rfl rfl (by decide +kernel)
set_option maxRecDepth 65536 in
theorem w_c19 : (Jvm.Cond.code ({ cls := "java/util/Arrays", name := "copyOf", desc := "([Ljava/lang/Object;ILjava/lang/Class;)[Ljava/lang/Object;" } : Jvm.MethodName) jdk_65_method_120_code (4 : Nat) (Option.some (Jvm.ClassFile.FieldType.array (Jvm.ClassFile.FieldType.object "java/lang/Object")))).before args0 about1 = true := code_word (m := ⟨26, 2⟩) (meth := k26m2) (c := k26c2) (by decide +kernel) rfl rfl rfl (by decide +kernel)
set_option maxRecDepth 65536 in
theorem w_c20 : (Jvm.Cond.code ({ cls := "java/lang/Math", name := "min", desc := "(II)I" } : Jvm.MethodName) jdk_29_method_69_code (2 : Nat) (Option.some Jvm.ClassFile.FieldType.int)).before args0 about1 = true := code_word (m := ⟨14, 2⟩) (meth := k14m2) (c := k14c2) (by decide +kernel) rfl rfl rfl (by decide +kernel)
set_option maxRecDepth 65536 in
theorem w_c21 : (Jvm.Cond.code ({ cls := "java/util/List", name := "of", desc := "([Ljava/lang/Object;)Ljava/util/List;" } : Jvm.MethodName) jdk_40_method_47_code (2 : Nat) (Option.some (Jvm.ClassFile.FieldType.object "java/util/List"))).before args0 about1 = true := code_word (m := ⟨8, 2⟩) (meth := k8m2) (c := k8c2) (by decide +kernel) rfl rfl rfl (by decide +kernel)
set_option maxRecDepth 65536 in
theorem w_c22 : (Jvm.Cond.code ({ cls := "java/util/ImmutableCollections", name := "listFromArray", desc := "([Ljava/lang/Object;)Ljava/util/List;" } : Jvm.MethodName) jdk_56_method_4_code (3 : Nat) (Option.some (Jvm.ClassFile.FieldType.object "java/util/List"))).before args0 about1 = true := code_word (m := ⟨21, 2⟩) (meth := k21m2) (c := k21c2) (by decide +kernel) rfl rfl rfl (by decide +kernel)
set_option maxRecDepth 65536 in
theorem w_c23 : (Jvm.Cond.code ({ cls := "java/util/Objects", name := "requireNonNull", desc := "(Ljava/lang/Object;)Ljava/lang/Object;" } : Jvm.MethodName) jdk_31_method_10_code (1 : Nat) (Option.some (Jvm.ClassFile.FieldType.object "java/lang/Object"))).before args0 about1 = true := code_word (m := ⟨28, 1⟩) (meth := k28m1) (c := k28c1) (by decide +kernel) rfl rfl rfl (by decide +kernel)
set_option maxRecDepth 65536 in
theorem w_c24 : (Jvm.Cond.code ({ cls := "java/util/ImmutableCollections$ListN", name := "<init>", desc := "([Ljava/lang/Object;Z)V" } : Jvm.MethodName) jdk_45_method_1_code (3 : Nat) (Option.none : Option Jvm.ClassFile.FieldType)).before args0 about1 = true := code_word (m := ⟨25, 0⟩) (meth := k25m0) (c := k25c0) (by decide +kernel) rfl rfl rfl (by decide +kernel)
set_option maxRecDepth 65536 in
theorem w_c25 : (Jvm.Cond.code ({ cls := "java/util/ImmutableCollections$AbstractImmutableList", name := "<init>", desc := "()V" } : Jvm.MethodName) jdk_46_method_1_code (1 : Nat) (Option.none : Option Jvm.ClassFile.FieldType)).before args0 about1 = true := code_word (m := ⟨23, 0⟩) (meth := k23m0) (c := k23c0) (by decide +kernel) rfl rfl rfl (by decide +kernel)
set_option maxRecDepth 65536 in
theorem w_c26 : (Jvm.Cond.code ({ cls := "java/util/ImmutableCollections$AbstractImmutableCollection", name := "<init>", desc := "()V" } : Jvm.MethodName) jdk_47_method_1_code (1 : Nat) (Option.none : Option Jvm.ClassFile.FieldType)).before args0 about1 = true := code_word (m := ⟨22, 0⟩) (meth := k22m0) (c := k22c0) (by decide +kernel) rfl rfl rfl (by decide +kernel)
set_option maxRecDepth 65536 in
theorem w_c27 : (Jvm.Cond.code ({ cls := "com/example/skyroster/skyroster/CostShare", name := "<init>", desc := "(Lcom/example/skyroster/skyroster/Satellite;)V" } : Jvm.MethodName) prog_2_method_1_code (2 : Nat) (Option.none : Option Jvm.ClassFile.FieldType)).before args0 about1 = true := code_word (m := ⟨29, 0⟩) (meth := k29m0) (c := k29c0) (by decide +kernel) rfl rfl rfl (by decide +kernel)
set_option maxRecDepth 65536 in
theorem w_c28 : (Jvm.Cond.code ({ cls := "com/example/skyroster/skyroster/Satellite", name := "costCoefficient", desc := "()D" } : Jvm.MethodName) prog_15_method_8_code (1 : Nat) (Option.some Jvm.ClassFile.FieldType.double)).before args0 about1 = true := code_word (m := ⟨15, 1⟩) (meth := k15m1) (c := k15c1) (by decide +kernel) rfl rfl rfl (by decide +kernel)
set_option maxRecDepth 65536 in
theorem w_c29 : (Jvm.Cond.code ({ cls := "com/example/skyroster/skyroster/Satellite", name := "usedWindows", desc := "()Ljava/util/List;" } : Jvm.MethodName) prog_15_method_12_code (1 : Nat) (Option.some (Jvm.ClassFile.FieldType.object "java/util/List"))).before args0 about1 = true := code_word (m := ⟨15, 2⟩) (meth := k15m2) (c := k15c2) (by decide +kernel) rfl rfl rfl (by decide +kernel)
set_option maxRecDepth 65536 in
theorem w_c30 : (Jvm.Cond.code ({ cls := "java/util/ImmutableCollections$ListN", name := "size", desc := "()I" } : Jvm.MethodName) jdk_45_method_3_code (1 : Nat) (Option.some Jvm.ClassFile.FieldType.int)).before args0 about1 = true := code_word (m := ⟨25, 1⟩) (meth := k25m1) (c := k25c1) (by decide +kernel) rfl rfl rfl (by decide +kernel)
set_option maxRecDepth 65536 in
theorem w_c31 : (Jvm.Cond.code ({ cls := "com/example/skyroster/skyroster/CostShare", name := "give", desc := "(D)V" } : Jvm.MethodName) prog_2_method_4_code (3 : Nat) (Option.none : Option Jvm.ClassFile.FieldType)).before args0 about1 = true := code_word (m := ⟨29, 2⟩) (meth := k29m2) (c := k29c2) (by decide +kernel) rfl rfl rfl (by decide +kernel)
set_option maxRecDepth 65536 in
theorem w_c32 : (Jvm.Cond.code ({ cls := "com/example/skyroster/skyroster/CostShare", name := "windowCount", desc := "()I" } : Jvm.MethodName) prog_2_method_2_code (1 : Nat) (Option.some Jvm.ClassFile.FieldType.int)).before args0 about1 = true := code_word (m := ⟨29, 1⟩) (meth := k29m1) (c := k29c1) (by decide +kernel) rfl rfl rfl (by decide +kernel)
set_option maxRecDepth 65536 in
theorem w_c33 : (Jvm.Cond.code ({ cls := "java/util/ImmutableCollections$List12", name := "<init>", desc := "(Ljava/lang/Object;Ljava/lang/Object;)V" } : Jvm.MethodName) jdk_44_method_2_code (3 : Nat) (Option.none : Option Jvm.ClassFile.FieldType)).before args0 about1 = true := code_word (m := ⟨24, 1⟩) (meth := k24m1) (c := k24c1) (by decide +kernel) rfl rfl rfl (by decide +kernel)
set_option maxRecDepth 65536 in
theorem w_c34 : (Jvm.Cond.code ({ cls := "java/util/ImmutableCollections$List12", name := "size", desc := "()I" } : Jvm.MethodName) jdk_44_method_3_code (1 : Nat) (Option.some Jvm.ClassFile.FieldType.int)).before args0 about1 = true := code_word (m := ⟨24, 2⟩) (meth := k24m2) (c := k24c2) (by decide +kernel) rfl rfl rfl (by decide +kernel)
set_option maxRecDepth 65536 in
theorem w_c35 : (Jvm.Cond.code ({ cls := "java/util/ImmutableCollections$List12", name := "<init>", desc := "(Ljava/lang/Object;)V" } : Jvm.MethodName) jdk_44_method_1_code (2 : Nat) (Option.none : Option Jvm.ClassFile.FieldType)).before args0 about1 = true := code_word (m := ⟨24, 0⟩) (meth := k24m0) (c := k24c0) (by decide +kernel) rfl rfl rfl (by decide +kernel)
def codes1 : List Jvm.Cond := [Jvm.Cond.code x code maxLocals ret, Jvm.Cond.code ({ cls := "com/example/skyroster/skyroster/UsedWindow", name := "<init>", desc := "(JJJ)V" } : Jvm.MethodName) prog_24_method_1_code (7 : Nat) (Option.none : Option Jvm.ClassFile.FieldType), Jvm.Cond.code ({ cls := "java/lang/Record", name := "<init>", desc := "()V" } : Jvm.MethodName) jdk_30_method_1_code (1 : Nat) (Option.none : Option Jvm.ClassFile.FieldType), Jvm.Cond.code ({ cls := "java/lang/Object", name := "<init>", desc := "()V" } : Jvm.MethodName) object_method_1_code (1 : Nat) (Option.none : Option Jvm.ClassFile.FieldType), Jvm.Cond.code ({ cls := "java/util/ArrayList", name := "<init>", desc := "()V" } : Jvm.MethodName) jdk_38_method_2_code (1 : Nat) (Option.none : Option Jvm.ClassFile.FieldType), Jvm.Cond.code ({ cls := "java/util/AbstractList", name := "<init>", desc := "()V" } : Jvm.MethodName) jdk_39_method_1_code (1 : Nat) (Option.none : Option Jvm.ClassFile.FieldType), Jvm.Cond.code ({ cls := "java/util/AbstractCollection", name := "<init>", desc := "()V" } : Jvm.MethodName) jdk_22_method_1_code (1 : Nat) (Option.none : Option Jvm.ClassFile.FieldType), Jvm.Cond.code ({ cls := "java/util/ArrayList", name := "add", desc := "(Ljava/lang/Object;)Z" } : Jvm.MethodName) jdk_38_method_25_code (2 : Nat) (Option.some Jvm.ClassFile.FieldType.boolean), Jvm.Cond.code ({ cls := "java/util/ArrayList", name := "add", desc := "(Ljava/lang/Object;[Ljava/lang/Object;I)V" } : Jvm.MethodName) jdk_38_method_24_code (4 : Nat) (Option.none : Option Jvm.ClassFile.FieldType), Jvm.Cond.code ({ cls := "java/util/ArrayList", name := "grow", desc := "()[Ljava/lang/Object;" } : Jvm.MethodName) jdk_38_method_7_code (1 : Nat) (Option.some (Jvm.ClassFile.FieldType.array (Jvm.ClassFile.FieldType.object "java/lang/Object"))), Jvm.Cond.code ({ cls := "java/util/ArrayList", name := "grow", desc := "(I)[Ljava/lang/Object;" } : Jvm.MethodName) jdk_38_method_6_code (4 : Nat) (Option.some (Jvm.ClassFile.FieldType.array (Jvm.ClassFile.FieldType.object "java/lang/Object"))), Jvm.Cond.code ({ cls := "java/lang/Math", name := "max", desc := "(II)I" } : Jvm.MethodName) jdk_29_method_65_code (2 : Nat) (Option.some Jvm.ClassFile.FieldType.int), Jvm.Cond.code ({ cls := "com/example/skyroster/skyroster/Satellite", name := "<init>", desc := "(Ljava/lang/String;Ljava/lang/String;Ljava/util/List;DJJJLjava/util/List;)V" } : Jvm.MethodName) prog_15_method_1_code (13 : Nat) (Option.none : Option Jvm.ClassFile.FieldType), Jvm.Cond.code ({ cls := "java/util/List", name := "copyOf", desc := "(Ljava/util/Collection;)Ljava/util/List;" } : Jvm.MethodName) jdk_40_method_48_code (1 : Nat) (Option.some (Jvm.ClassFile.FieldType.object "java/util/List")), Jvm.Cond.code ({ cls := "java/util/ImmutableCollections", name := "listCopy", desc := "(Ljava/util/Collection;)Ljava/util/List;" } : Jvm.MethodName) jdk_56_method_3_code (2 : Nat) (Option.some (Jvm.ClassFile.FieldType.object "java/util/List")), Jvm.Cond.code ({ cls := "java/util/ArrayList", name := "isEmpty", desc := "()Z" } : Jvm.MethodName) jdk_38_method_9_code (1 : Nat) (Option.some Jvm.ClassFile.FieldType.boolean), Jvm.Cond.code ({ cls := "java/util/List", name := "of", desc := "()Ljava/util/List;" } : Jvm.MethodName) jdk_40_method_36_code (0 : Nat) (Option.some (Jvm.ClassFile.FieldType.object "java/util/List")), Jvm.Cond.code ({ cls := "java/util/ArrayList", name := "toArray", desc := "()[Ljava/lang/Object;" } : Jvm.MethodName) jdk_38_method_16_code (1 : Nat) (Option.some (Jvm.ClassFile.FieldType.array (Jvm.ClassFile.FieldType.object "java/lang/Object"))), Jvm.Cond.code ({ cls := "java/util/Arrays", name := "copyOf", desc := "([Ljava/lang/Object;I)[Ljava/lang/Object;" } : Jvm.MethodName) jdk_65_method_119_code (2 : Nat) (Option.some (Jvm.ClassFile.FieldType.array (Jvm.ClassFile.FieldType.object "java/lang/Object"))), Jvm.Cond.code ({ cls := "java/util/Arrays", name := "copyOf", desc := "([Ljava/lang/Object;ILjava/lang/Class;)[Ljava/lang/Object;" } : Jvm.MethodName) jdk_65_method_120_code (4 : Nat) (Option.some (Jvm.ClassFile.FieldType.array (Jvm.ClassFile.FieldType.object "java/lang/Object"))), Jvm.Cond.code ({ cls := "java/lang/Math", name := "min", desc := "(II)I" } : Jvm.MethodName) jdk_29_method_69_code (2 : Nat) (Option.some Jvm.ClassFile.FieldType.int), Jvm.Cond.code ({ cls := "java/util/List", name := "of", desc := "([Ljava/lang/Object;)Ljava/util/List;" } : Jvm.MethodName) jdk_40_method_47_code (2 : Nat) (Option.some (Jvm.ClassFile.FieldType.object "java/util/List")), Jvm.Cond.code ({ cls := "java/util/ImmutableCollections", name := "listFromArray", desc := "([Ljava/lang/Object;)Ljava/util/List;" } : Jvm.MethodName) jdk_56_method_4_code (3 : Nat) (Option.some (Jvm.ClassFile.FieldType.object "java/util/List")), Jvm.Cond.code ({ cls := "java/util/Objects", name := "requireNonNull", desc := "(Ljava/lang/Object;)Ljava/lang/Object;" } : Jvm.MethodName) jdk_31_method_10_code (1 : Nat) (Option.some (Jvm.ClassFile.FieldType.object "java/lang/Object")), Jvm.Cond.code ({ cls := "java/util/ImmutableCollections$ListN", name := "<init>", desc := "([Ljava/lang/Object;Z)V" } : Jvm.MethodName) jdk_45_method_1_code (3 : Nat) (Option.none : Option Jvm.ClassFile.FieldType), Jvm.Cond.code ({ cls := "java/util/ImmutableCollections$AbstractImmutableList", name := "<init>", desc := "()V" } : Jvm.MethodName) jdk_46_method_1_code (1 : Nat) (Option.none : Option Jvm.ClassFile.FieldType), Jvm.Cond.code ({ cls := "java/util/ImmutableCollections$AbstractImmutableCollection", name := "<init>", desc := "()V" } : Jvm.MethodName) jdk_47_method_1_code (1 : Nat) (Option.none : Option Jvm.ClassFile.FieldType), Jvm.Cond.code ({ cls := "com/example/skyroster/skyroster/CostShare", name := "<init>", desc := "(Lcom/example/skyroster/skyroster/Satellite;)V" } : Jvm.MethodName) prog_2_method_1_code (2 : Nat) (Option.none : Option Jvm.ClassFile.FieldType), Jvm.Cond.code ({ cls := "com/example/skyroster/skyroster/Satellite", name := "costCoefficient", desc := "()D" } : Jvm.MethodName) prog_15_method_8_code (1 : Nat) (Option.some Jvm.ClassFile.FieldType.double), Jvm.Cond.code ({ cls := "com/example/skyroster/skyroster/Satellite", name := "usedWindows", desc := "()Ljava/util/List;" } : Jvm.MethodName) prog_15_method_12_code (1 : Nat) (Option.some (Jvm.ClassFile.FieldType.object "java/util/List")), Jvm.Cond.code ({ cls := "java/util/ImmutableCollections$ListN", name := "size", desc := "()I" } : Jvm.MethodName) jdk_45_method_3_code (1 : Nat) (Option.some Jvm.ClassFile.FieldType.int), Jvm.Cond.code ({ cls := "com/example/skyroster/skyroster/CostShare", name := "give", desc := "(D)V" } : Jvm.MethodName) prog_2_method_4_code (3 : Nat) (Option.none : Option Jvm.ClassFile.FieldType), Jvm.Cond.code ({ cls := "com/example/skyroster/skyroster/CostShare", name := "windowCount", desc := "()I" } : Jvm.MethodName) prog_2_method_2_code (1 : Nat) (Option.some Jvm.ClassFile.FieldType.int), Jvm.Cond.code ({ cls := "java/util/ImmutableCollections$List12", name := "<init>", desc := "(Ljava/lang/Object;Ljava/lang/Object;)V" } : Jvm.MethodName) jdk_44_method_2_code (3 : Nat) (Option.none : Option Jvm.ClassFile.FieldType), Jvm.Cond.code ({ cls := "java/util/ImmutableCollections$List12", name := "size", desc := "()I" } : Jvm.MethodName) jdk_44_method_3_code (1 : Nat) (Option.some Jvm.ClassFile.FieldType.int), Jvm.Cond.code ({ cls := "java/util/ImmutableCollections$List12", name := "<init>", desc := "(Ljava/lang/Object;)V" } : Jvm.MethodName) jdk_44_method_1_code (2 : Nat) (Option.none : Option Jvm.ClassFile.FieldType)]
set_option maxRecDepth 65536 in
theorem codes_eq : words1.filter isCode = codes1 := rfl
theorem w_codes : ∀ c ∈ words1.filter isCode, c.before args0 about1 = true := by
  rw [codes_eq]
  intro c hc
  simp only [codes1, List.mem_cons, List.not_mem_nil, or_false] at hc
  rcases hc with rfl | rfl | rfl | rfl | rfl | rfl | rfl | rfl | rfl | rfl | rfl | rfl | rfl | rfl | rfl | rfl | rfl | rfl | rfl | rfl | rfl | rfl | rfl | rfl | rfl | rfl | rfl | rfl | rfl | rfl | rfl | rfl | rfl | rfl | rfl | rfl
  · exact w_c0
  · exact w_c1
  · exact w_c2
  · exact w_c3
  · exact w_c4
  · exact w_c5
  · exact w_c6
  · exact w_c7
  · exact w_c8
  · exact w_c9
  · exact w_c10
  · exact w_c11
  · exact w_c12
  · exact w_c13
  · exact w_c14
  · exact w_c15
  · exact w_c16
  · exact w_c17
  · exact w_c18
  · exact w_c19
  · exact w_c20
  · exact w_c21
  · exact w_c22
  · exact w_c23
  · exact w_c24
  · exact w_c25
  · exact w_c26
  · exact w_c27
  · exact w_c28
  · exact w_c29
  · exact w_c30
  · exact w_c31
  · exact w_c32
  · exact w_c33
  · exact w_c34
  · exact w_c35
set_option maxRecDepth 65536 in
theorem w_t1 : (words1.take 24).all (fun c => isCode c || c.before args0 about1) = true := by decide +kernel
set_option maxRecDepth 65536 in
theorem w_t2 : ((words1.drop 24).take 24).all (fun c => isCode c || c.before args0 about1) = true := by decide +kernel
set_option maxRecDepth 65536 in
theorem w_t3 : (((words1.drop 24).drop 24).take 24).all (fun c => isCode c || c.before args0 about1) = true := by decide +kernel
set_option maxRecDepth 65536 in
theorem w_t4 : ((((words1.drop 24).drop 24).drop 24).take 24).all (fun c => isCode c || c.before args0 about1) = true := by decide +kernel
set_option maxRecDepth 65536 in
theorem w_t5 : (((((words1.drop 24).drop 24).drop 24).drop 24).take 24).all (fun c => isCode c || c.before args0 about1) = true := by decide +kernel
set_option maxRecDepth 65536 in
theorem w_t6 : ((((((words1.drop 24).drop 24).drop 24).drop 24).drop 24).take 24).all (fun c => isCode c || c.before args0 about1) = true := by decide +kernel
set_option maxRecDepth 65536 in
theorem w_t7 : (((((((words1.drop 24).drop 24).drop 24).drop 24).drop 24).drop 24).take 24).all (fun c => isCode c || c.before args0 about1) = true := by decide +kernel
set_option maxRecDepth 65536 in
theorem w_t8 : ((((((((words1.drop 24).drop 24).drop 24).drop 24).drop 24).drop 24).drop 24).take 24).all (fun c => isCode c || c.before args0 about1) = true := by decide +kernel
set_option maxRecDepth 65536 in
theorem w_t9 : (((((((((words1.drop 24).drop 24).drop 24).drop 24).drop 24).drop 24).drop 24).drop 24).take 24).all (fun c => isCode c || c.before args0 about1) = true := by decide +kernel
set_option maxRecDepth 65536 in
theorem w_t10 : ((((((((((words1.drop 24).drop 24).drop 24).drop 24).drop 24).drop 24).drop 24).drop 24).drop 24).take 24).all (fun c => isCode c || c.before args0 about1) = true := by decide +kernel
set_option maxRecDepth 65536 in
theorem w_t11 : (((((((((((words1.drop 24).drop 24).drop 24).drop 24).drop 24).drop 24).drop 24).drop 24).drop 24).drop 24).take 24).all (fun c => isCode c || c.before args0 about1) = true := by decide +kernel
set_option maxRecDepth 65536 in
theorem w_t12 : (((((((((((words1.drop 24).drop 24).drop 24).drop 24).drop 24).drop 24).drop 24).drop 24).drop 24).drop 24).drop 24).all (fun c => isCode c || c.before args0 about1) = true := by decide +kernel
theorem w_tables : (allAtoms (Jvm.Cond.code x code maxLocals ret :: tables_1)).before args0 about1 = true := by
  rw [allAtoms_all]
  show words1.all (fun c => c.before args0 about1) = true
  refine all_split ?_ w_codes
  rw [← List.take_append_drop 24 words1, List.all_append, w_t1, ← List.take_append_drop 24 (words1.drop 24), List.all_append, w_t2, ← List.take_append_drop 24 ((words1.drop 24).drop 24), List.all_append, w_t3, ← List.take_append_drop 24 (((words1.drop 24).drop 24).drop 24), List.all_append, w_t4, ← List.take_append_drop 24 ((((words1.drop 24).drop 24).drop 24).drop 24), List.all_append, w_t5, ← List.take_append_drop 24 (((((words1.drop 24).drop 24).drop 24).drop 24).drop 24), List.all_append, w_t6, ← List.take_append_drop 24 ((((((words1.drop 24).drop 24).drop 24).drop 24).drop 24).drop 24), List.all_append, w_t7, ← List.take_append_drop 24 (((((((words1.drop 24).drop 24).drop 24).drop 24).drop 24).drop 24).drop 24), List.all_append, w_t8, ← List.take_append_drop 24 ((((((((words1.drop 24).drop 24).drop 24).drop 24).drop 24).drop 24).drop 24).drop 24), List.all_append, w_t9, ← List.take_append_drop 24 (((((((((words1.drop 24).drop 24).drop 24).drop 24).drop 24).drop 24).drop 24).drop 24).drop 24), List.all_append, w_t10, ← List.take_append_drop 24 ((((((((((words1.drop 24).drop 24).drop 24).drop 24).drop 24).drop 24).drop 24).drop 24).drop 24).drop 24), List.all_append, w_t11, w_t12]
  rfl
set_option maxRecDepth 65536 in
theorem w_rest : rest_1_c.before args0 about1 = true := by decide +kernel
set_option maxRecDepth 65536 in
theorem w_case : (Jvm.Cond.and given_1 narrow_1).before args0 about1 = true := by decide +kernel
theorem w_applies : (headSpec (Jvm.Cond.code x code maxLocals ret :: tables_1) room_1).applies x e0.platform about1 = true :=
  (Spec.applies_iff w_frames).mpr ⟨w_running, w_runnable, w_alone, w_named, w_hears, w_ripe, w_room, w_tables⟩
theorem atStart : AtStart classFile x code maxLocals ret World_1 tables_1 room_1 Calls_1 rest_1 Pre_1 launch0 p0 e0 about1 theMethod args0 below0 :=
  ⟨lists_1, trivial, launch0.admits_env _ _ _, launch0.least_env, fairChoices_fair.cas, fairChoices_fair.clock, w_frames, w_args, w_heap, w_applies, ⟨⟨35, k35, 2, by decide +kernel, rfl, rfl, _, rfl, rfl⟩, trivial⟩, w_rest, w_case⟩
end start1
theorem witness_1 : WitnessClaimed_1 := ⟨start1.p0, start1.e0, start1.about1, start1.theMethod, start1.args0, start1.below0, start1.atStart⟩
end Jvm.Pilot.@@N@@
