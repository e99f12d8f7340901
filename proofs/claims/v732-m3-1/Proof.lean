import JvmDerived
import JvmDerived.Pilot.@@N@@Statement
import JvmDerived.Pilot.@@N@@Code
set_option linter.unusedVariables false
set_option linter.unusedSimpArgs false
namespace Jvm.Pilot.@@N@@
open Jvm Jvm.ClassFile Sem Op Lib Jvm.Free Jvm.Stand Jvm.LawKit Jvm.RoadKit Bundle Jvm.Pilot.@@N@@.Jvm.D
/-- from U the run comes to a state of which K holds -/
def own_Go (tb : Tables) (e : Env) (below : List Frame) (K : State → Prop) (U : State) : Prop := ∃ t, Steps tb e below U t ∧ K t
theorem own_by {tb : Tables} {e : Env} {below : List Frame} {K : State → Prop} {U U' : State} (k : ∀ t, Steps tb e below U' t → Steps tb e below U t) (h : own_Go tb e below K U') : own_Go tb e below K U := by
  obtain ⟨t, a, b⟩ := h
  exact ⟨t, k t a, b⟩
/-- what a returning instruction needs: the frames that it leaves, and that K holds there -/
def own_Out (e : Env) (m : MethodId) (K : State → Prop) (T : State) (v : Option Value) : Prop := ∃ fs, (∀ (f : JFrame) (acts : List Action), f.method = m → f.locked = none → f.entered = [] → (doReturn e (T.setTop f) acts v).1 = T.setFrames fs) ∧ K (T.setFrames fs)
theorem own_met {l : Launch} {y : MethodName} {bytes : ByteArray} {ml : Nat} {ret : Option FieldType} {ws : List Jvm.Cond} {rm : Room} {as' : Array Value} {Z : State} {h0 : Heap} {k n : Nat} {Q : Option Value → Heap → List Loc → Prop} (hp : plainFor y = true)
    (body : ∀ (p : Program) (e : Env) (s : State) (m : MethodId) (below : List Frame) (meth : Method) (c : Code) (s₁ : State) (K : State → Prop), p.tables.exec = Jvm.exec → c.code = bytes → c.maxLocals = ml → s.vm.findClass y.cls = some m.cls → meth.name = y.name → meth.sig.returnType = ret →
      Z.Warmed39 s.vm → Stand p l e rm s m as' below meth c s₁ [] 0 0 → s₁.heap = h0 →
      (∀ (v : Option Value) {T : State} {L : List Loc} {k' n' : Nat}, Stand p l e rm s m as' below meth c T L k' n' → (meth.sig.returnType = none → v = none) → Q v T.heap L → k' ≤ k → n' ≤ n → own_Out e m K T v) →
      own_Go p.tables e below K (s₁.setTop (entryFrame m as' ml))) :
    MetFree l y (head1 (Jvm.Cond.code y bytes ml ret :: ws) rm) (fun a U => a = as' ∧ Z.Warmed39 U.vm ∧ U.heap = h0) (fun _ _ _ _ _ => True) (fun _ U o U' => ∃ v L, o = .returned v ∧ Q v U'.heap L ∧ FrameEnd U o U' L k n) := by
  refine MetFree.of_bodySF hp hisR ?_
  intro p e s m args below meth c s₁ Bd hml0 hP hK
  obtain ⟨rfl, hZ, hh⟩ := hP
  have hown : s.vm.findClass y.cls = some m.cls := findClass_of_methodNamed Bd.named
  obtain ⟨t, hs, o, h1, h2, h3⟩ := body p e s m below meth c s₁ (fun t => ∃ o, t.status = .running ∧ Ended t below o ∧ ∃ v L, o = .returned v ∧ Q v t.heap L ∧ FrameEnd s o t L k n) Bd.exec Bd.bytes hml0 hown (name_of_methodNamed Bd.named Bd.method).1 Bd.returns hZ (Stand.of_body Bd) (by rw [← hh, Bd.state]; rfl) (by
    intro v T L k' n' X hv hq hk hn
    obtain ⟨fs, hr, hrun, hended, hW, hsame⟩ := X.leave (v := v) hv
    exact ⟨fs, hr, _, hrun, hended, v, L, rfl, hq, ⟨_, rfl⟩, hW, hsame.mono hk hn⟩)
  exact ⟨t, o, hs, h1, h2, h3⟩
section OwnRet
variable {p : Program} {l : Launch} {e : Env} {R : Room} {s : State} {m : MethodId} {args : Array Value} {below : List Frame} {meth : Method} {c : Code} {T : State} {locs : List Loc} {cells slots : Nat} {K : State → Prop}
theorem own_retI (X : Stand p l e R s m args below meth c T locs cells slots) (hx : p.tables.exec = Jvm.exec) (hret : meth.sig.returnType = some .int) {pc : Nat} {Ls : Array Slot} {z : Int32} {rest : List Value} (hd : decode c.code pc = .ok (.ireturn, 1)) (hq : own_Out e m K T (some (.int z))) : own_Go p.tables e below K (T.setTop (mkF m pc Ls (.int z :: rest))) := by
  obtain ⟨fs, hr, hk⟩ := hq
  exact ⟨_, retOut X hx hret rfl (Or.inl ⟨rfl, Or.inl rfl, _, rfl⟩) hd hr, hk⟩
theorem own_retZ (X : Stand p l e R s m args below meth c T locs cells slots) (hx : p.tables.exec = Jvm.exec) {t : FieldType} (hret : meth.sig.returnType = some t) (ht : t = .boolean ∨ t = .byte ∨ t = .char ∨ t = .short) {pc : Nat} {Ls : Array Slot} {z : Int32} {rest : List Value} (hd : decode c.code pc = .ok (.ireturn, 1)) (hq : own_Out e m K T (some (.int (nar t z)))) : own_Go p.tables e below K (T.setTop (mkF m pc Ls (.int z :: rest))) := by
  obtain ⟨fs, hr, hk⟩ := hq
  exact ⟨_, retN X hx hret ht hd hr, hk⟩
theorem own_retJ (X : Stand p l e R s m args below meth c T locs cells slots) (hx : p.tables.exec = Jvm.exec) (hret : meth.sig.returnType = some .long) {pc : Nat} {Ls : Array Slot} {z : Int64} {rest : List Value} (hd : decode c.code pc = .ok (.lreturn, 1)) (hq : own_Out e m K T (some (.long z))) : own_Go p.tables e below K (T.setTop (mkF m pc Ls (.long z :: rest))) := by
  obtain ⟨fs, hr, hk⟩ := hq
  exact ⟨_, retOut X hx hret rfl (Or.inr (Or.inl ⟨rfl, rfl, _, rfl⟩)) hd hr, hk⟩
theorem own_retA (X : Stand p l e R s m args below meth c T locs cells slots) (hx : p.tables.exec = Jvm.exec) {t : FieldType} (hret : meth.sig.returnType = some t) (ht : t.isReference = true) {pc : Nat} {Ls : Array Slot} {w : Value} {rest : List Value} (hn : narrow t w = w) (hw : w.isRef = true) (hd : decode c.code pc = .ok (.areturn, 1)) (hq : own_Out e m K T (some w)) : own_Go p.tables e below K (T.setTop (mkF m pc Ls (w :: rest))) := by
  obtain ⟨fs, hr, hk⟩ := hq
  exact ⟨_, retOut X hx hret hn (Or.inr (Or.inr (Or.inr (Or.inr ⟨rfl, ht, hw⟩)))) hd hr, hk⟩
theorem own_retV (X : Stand p l e R s m args below meth c T locs cells slots) (hx : p.tables.exec = Jvm.exec) (hret : meth.sig.returnType = none) {pc : Nat} {Ls : Array Slot} (hd : decode c.code pc = .ok (.return_, 1)) (hq : own_Out e m K T none) : own_Go p.tables e below K (T.setTop (mkF m pc Ls [])) := by
  obtain ⟨fs, hr, hk⟩ := hq
  exact ⟨_, X.returnOut hx hret hd hr, hk⟩
end OwnRet
theorem own_nar {C : String} {w : Value} (h : w.isRef = true) : narrow (.object C) w = w := by cases w <;> rfl
theorem own_fit {C : String} {w : Value} (h : w.isRef = true) : fits (.object C) w = true := by cases w <;> first | rfl | (simp [Value.isRef] at h)
theorem own_more {p : Program} {l : Launch} {e : Env} {R : Room} {s : State} {m : MethodId} {args : Array Value} {below : List Frame} {meth : Method} {c : Code} {T : State} {locs : List Loc} {k n k' n' : Nat} (X : Stand p l e R s m args below meth c T locs k n) (hk : k ≤ k') (hn : n ≤ n') : Stand p l e R s m args below meth c T locs k' n' := { X with same := X.same.mono hk hn }
/-- a condition as 0 or 1 -/
def own_tern (x : Int32) : Int32 := if x = 0 then 0 else 1
theorem own_t0 {x : Int32} (h : x = 0) : own_tern x = 0 := if_pos h
theorem own_t1 {x : Int32} (h : ¬ x = 0) : own_tern x = 1 := if_neg h
theorem own_t01 (x : Int32) : own_tern x = 0 ∨ own_tern x = 1 := by unfold own_tern; split <;> simp
theorem own_nb {x : Int32} (h : x = 0 ∨ x = 1) : nar .boolean x = x := by rcases h with rfl | rfl <;> rfl
theorem own_b53 (x : Int32) : B53 x.toInt64 := by
  have h1 := x.toInt_lt; have h2 := x.le_toInt
  unfold B53
  rw [Int32.toInt_toInt64]
  omega
theorem own_i64 (x y : Int32) : x.toInt64 < y.toInt64 ↔ x < y := by rw [Int64.lt_iff_toInt_lt, Int32.lt_iff_toInt_lt, Int32.toInt_toInt64, Int32.toInt_toInt64]
theorem own_ni {x y : Int32} (h : ¬ x = y) {n : Int} (e : y.toInt = n) : ¬ x.toInt = n := fun q => h (Int32.toInt_inj.mp (q.trans e.symm))
theorem own_llt {x y : Int64} (h : x < y) : ifCond.holds .lt (lcmpW x y) = true ∧ ifCond.holds .ge (lcmpW x y) = false := by
  have q := tlt (by rw [lcW]; exact (lc_lt x y).mpr h : lcmpW x y < 0)
  exact ⟨(if0 _ _).trans q.1, (if0 _ _).trans q.2.1⟩
theorem own_lge {x y : Int64} (h : ¬ x < y) : ifCond.holds .lt (lcmpW x y) = false ∧ ifCond.holds .ge (lcmpW x y) = true := by
  have q := flt (by rw [lcW]; exact fun z => h ((lc_lt x y).mp z) : ¬ lcmpW x y < 0)
  exact ⟨(if0 _ _).trans q.1, (if0 _ _).trans q.2.1⟩
theorem own_lgt {x y : Int64} (h : y < x) : ifCond.holds .gt (lcmpW x y) = true ∧ ifCond.holds .le (lcmpW x y) = false := by
  have q := tlt (by rw [lcW]; exact (lc_gt x y).mpr h : 0 < lcmpW x y)
  exact ⟨(if0 _ _).trans q.2.2.1, (if0 _ _).trans q.2.2.2⟩
theorem own_lle {x y : Int64} (h : ¬ y < x) : ifCond.holds .gt (lcmpW x y) = false ∧ ifCond.holds .le (lcmpW x y) = true := by
  have q := flt (by rw [lcW]; exact fun z => h ((lc_gt x y).mp z) : ¬ 0 < lcmpW x y)
  exact ⟨(if0 _ _).trans q.2.2.1, (if0 _ _).trans q.2.2.2⟩
theorem own_leq {x y : Int64} (h : x = y) : ifCond.holds .eq (lcmpW x y) = true ∧ ifCond.holds .ne (lcmpW x y) = false := by
  have q := teq (by rw [lcW]; exact (lc_eq x y).mpr h : lcmpW x y = 0)
  exact ⟨(if0 _ _).trans q.1, (if0 _ _).trans q.2⟩
theorem own_lne {x y : Int64} (h : ¬ x = y) : ifCond.holds .eq (lcmpW x y) = false ∧ ifCond.holds .ne (lcmpW x y) = true := by
  have q := feq (by rw [lcW]; exact fun z => h ((lc_eq x y).mp z) : ¬ lcmpW x y = 0)
  exact ⟨(if0 _ _).trans q.1, (if0 _ _).trans q.2⟩
theorem own_max (x : Int32) : 0 ≤ (x &&& (2147483647 : Int32)).toInt := by
  have h : (x &&& (2147483647 : Int32)).toBitVec.toNat ≤ 2147483647 := by
    rw [Int32.toBitVec_and, BitVec.toNat_and]
    exact Nat.and_le_right
  rw [← Int32.toInt_toBitVec, BitVec.toInt_eq_toNat_cond, if_pos (by omega)]
  omega
/-- s is one of 0 .. N -/
def own_is (s : Int32) (N : Nat) : Prop := ∃ i, i ≤ N ∧ s = Int32.ofNat i
theorem own_is_of {s : Int32} {N : Nat} (h1 : 0 ≤ s.toInt) (h2 : s.toInt ≤ N) : own_is s N := by
  refine ⟨s.toInt.toNat, by omega, ?_⟩
  apply Int32.toInt_inj.mp
  have h3 := s.toInt_lt
  rw [Int32.toInt_ofNat_of_lt (by omega)]
  omega
theorem own_mod (x : Int32) (k : Int32) (n : Nat) (hk : k.toInt = n + 1) : own_is ((x &&& (2147483647 : Int32)) % k) n := by
  have h := own_max x
  have e : ((x &&& (2147483647 : Int32)) % k).toInt = (x &&& (2147483647 : Int32)).toInt % (n + 1) := by
    rw [Int32.toInt_mod, hk, Int.tmod_eq_emod_of_nonneg h]
  have h1 := Int.emod_nonneg (x &&& (2147483647 : Int32)).toInt (show (n : Int) + 1 ≠ 0 by omega)
  have h2 := Int.emod_lt_of_pos (x &&& (2147483647 : Int32)).toInt (show (0 : Int) < n + 1 by omega)
  exact own_is_of (by omega) (by omega)
theorem own_is_add {s t : Int32} {N M : Nat} (h : own_is s N) (h' : own_is t M) : own_is (s + t) (N + M) := by
  obtain ⟨i, hi, rfl⟩ := h
  obtain ⟨j, hj, rfl⟩ := h'
  exact ⟨i + j, by omega, by rw [Int32.ofNat_add]⟩
theorem own_three {x : Int32} (h : own_is x 2) : 2 + x = 2 ∨ 2 + x = 3 ∨ 2 + x = 4 := by
  obtain ⟨i, hi, rfl⟩ := h
  have : ∀ k : Fin 3, 2 + Int32.ofNat k.val = 2 ∨ 2 + Int32.ofNat k.val = 3 ∨ 2 + Int32.ofNat k.val = 4 := by decide
  exact this ⟨i, by omega⟩
def own_T (s : Int32) : UInt64 := FP.ddiv (FP.l2d s.toInt64) 4634204016564240384
def own_X (k : Int32) : UInt64 := FP.ddiv (FP.l2d k.toInt64) 4620693217682128896
def own_D (k : Int32) : UInt64 := FP.dsub (own_X k) 4602678819172646912
def own_sq (k : Int32) : Int32 := (k - 4) * (k - 4)
theorem own_T0 : FP.dconst0 = own_T 0 := by decide +kernel
theorem own_fX {k : Int32} (h : own_is k 8) : Jvm.Free.Fl.NoNaN64 (own_X k) := by
  obtain ⟨i, hi, rfl⟩ := h
  have t : ∀ k : Fin 9, Jvm.Free.Fl.NoNaN64 (own_X (Int32.ofNat k.val)) := by unfold Jvm.Free.Fl.NoNaN64; decide +kernel
  exact t ⟨i, by omega⟩
theorem own_fD {k : Int32} (h : own_is k 8) : Jvm.Free.Fl.NoNaN64 (FP.dsub (own_X k) 4602678819172646912) := by
  obtain ⟨i, hi, rfl⟩ := h
  have t : ∀ k : Fin 9, Jvm.Free.Fl.NoNaN64 (FP.dsub (own_X (Int32.ofNat k.val)) 4602678819172646912) := by unfold Jvm.Free.Fl.NoNaN64; decide +kernel
  exact t ⟨i, by omega⟩
theorem own_fM {k : Int32} (h : own_is k 8) : FP.dmul (own_D k) (own_D k) = own_T (own_sq k) ∧ own_is (own_sq k) 16 := by
  obtain ⟨i, hi, rfl⟩ := h
  have t : ∀ k : Fin 9, FP.dmul (own_D (Int32.ofNat k.val)) (own_D (Int32.ofNat k.val)) = own_T (own_sq (Int32.ofNat k.val)) := by decide +kernel
  have t2 : ∀ k : Fin 9, 0 ≤ (own_sq (Int32.ofNat k.val)).toInt ∧ (own_sq (Int32.ofNat k.val)).toInt ≤ 16 := by decide +kernel
  exact ⟨t ⟨i, by omega⟩, own_is_of (t2 ⟨i, by omega⟩).1 (t2 ⟨i, by omega⟩).2⟩
theorem own_nT {s : Int32} (h : own_is s 48) : Jvm.Free.Fl.NoNaN64 (own_T s) := by
  obtain ⟨i, hi, rfl⟩ := h
  have t : ∀ k : Fin 49, Jvm.Free.Fl.NoNaN64 (own_T (Int32.ofNat k.val)) := by unfold Jvm.Free.Fl.NoNaN64; decide +kernel
  exact t ⟨i, by omega⟩
theorem own_fA {s t : Int32} (h : own_is s 32) (h' : own_is t 16) : FP.dadd (own_T s) (own_T t) = own_T (s + t) := by
  obtain ⟨i, hi, rfl⟩ := h
  obtain ⟨j, hj, rfl⟩ := h'
  have t : ∀ k : Fin 33, ∀ j : Fin 17, FP.dadd (own_T (Int32.ofNat k.val)) (own_T (Int32.ofNat j.val)) = own_T (Int32.ofNat k.val + Int32.ofNat j.val) := by decide +kernel
  exact t ⟨i, by omega⟩ ⟨j, by omega⟩
theorem own_retD {p : Program} {l : Launch} {e : Env} {R : Room} {s : State} {m : MethodId} {args : Array Value} {below : List Frame} {meth : Method} {c : Code} {T : State} {locs : List Loc} {cells slots : Nat} {K : State → Prop} (X : Stand p l e R s m args below meth c T locs cells slots) (hx : p.tables.exec = Jvm.exec) (hret : meth.sig.returnType = some .double) {pc : Nat} {Ls : Array Slot} {z : UInt64} {rest : List Value} (hd : decode c.code pc = .ok (.dreturn, 1)) (hq : own_Out e m K T (some (.double z))) : own_Go p.tables e below K (T.setTop (mkF m pc Ls (.double z :: rest))) := by
  obtain ⟨fs, hr, hk⟩ := hq
  exact ⟨_, retOut X hx hret rfl (Or.inr (Or.inr (Or.inl ⟨rfl, rfl, _, rfl⟩))) hd hr, hk⟩
theorem own_pn1 : plainName "com/example/manyfront/manyfront/problems/DtlzSphereDistancePinLaw" = true := by first | (simp [plainName, overriddenIn]; done) | decide +kernel
theorem own_d1_0 : decode method_2_code 0 = .ok (.iload_n 0, 1) := by decide +kernel
theorem own_d1_1 : decode method_2_code 1 = .ok (.iconst 4, 1) := by decide +kernel
theorem own_d1_2 : decode method_2_code 2 = .ok (.isub, 1) := by decide +kernel
theorem own_d1_3 : decode method_2_code 3 = .ok (.istore_n 1, 1) := by decide +kernel
theorem own_d1_4 : decode method_2_code 4 = .ok (.iload_n 1, 1) := by decide +kernel
theorem own_d1_5 : decode method_2_code 5 = .ok (.iload_n 1, 1) := by decide +kernel
theorem own_d1_6 : decode method_2_code 6 = .ok (.imul, 1) := by decide +kernel
theorem own_d1_7 : decode method_2_code 7 = .ok (.ireturn, 1) := by decide +kernel
theorem own_efsq (m : MethodId) (q1 : Int32) : entryFrame m #[(.int q1)] 2 = mkF m 0 #[.val (.int q1), .unset] [] := by first | (simp [entryFrame, mkF, argsToLocals, Value.category]; done) | rfl
def own_Qsq (Z : State) (q1 : Int32) (h0 : Heap) (n0 : Nat) (v : Option Value) (h : Heap) (L : List Loc) : Prop := v = some (.int (own_sq q1)) ∧ Fr n0 L ∧ h = h0
set_option maxRecDepth 65536 in
set_option maxHeartbeats 40000000 in
theorem own_rmsq (l : Launch) (Z : State) (aw : Array Value) (hw : ∀ d ∈ tables_1, d.before aw Z = true) (ws : List Jvm.Cond) (q1 : Int32) (h0 : Heap) (n0 : Nat) (Z0 : n0 ≤ h0.size)  :
    MetFree l (⟨"com/example/manyfront/manyfront/problems/DtlzSphereDistancePinLaw", "sq", "(I)I"⟩ : MethodName) (head1 (Jvm.Cond.code (⟨"com/example/manyfront/manyfront/problems/DtlzSphereDistancePinLaw", "sq", "(I)I"⟩ : MethodName) method_2_code 2 (some .int) :: ws) ({ frames := 0, cells := 0, slots := 0, locals := 0 } : Room)) (fun a U => a = #[(.int q1)] ∧ Z.Warmed39 U.vm ∧ U.heap = h0) (fun _ _ _ _ _ => True) (fun _ U o U' => ∃ v L, o = .returned v ∧ own_Qsq Z q1 h0 n0 v U'.heap L ∧ FrameEnd U o U' L ({ frames := 0, cells := 0, slots := 0, locals := 0 } : Room).cells ({ frames := 0, cells := 0, slots := 0, locals := 0 } : Room).slots) := by
  refine own_met (Q := own_Qsq Z q1 h0 n0) (plainFor_of_name own_pn1) ?_
  intro p e s m below meth c s₁ K hx hby hml hown hnm hret hZ X0 e0 hK
  have hown : s.vm.findClass "com/example/manyfront/manyfront/problems/DtlzSphereDistancePinLaw" = some m.cls := hown
  have N0 := Fr.nil n0
  refine own_by (fun t k => castTop (own_efsq m q1) k) ?_
  show own_Go p.tables e below K (s₁.setTop (mkF m 0 #[.val (.int q1), .unset] []))
  refine own_by (fun t k => XS.iloadN X0.here hx rfl (hb hby own_d1_0) rfl k) ?_
  show own_Go p.tables e below K (s₁.setTop (mkF m 1 #[.val (.int q1), .unset] [(.int q1)]))
  refine own_by (fun t k => XS.iconst X0.here hx rfl (hb hby own_d1_1) k) ?_
  show own_Go p.tables e below K (s₁.setTop (mkF m 2 #[.val (.int q1), .unset] [(.int (4 : Int32)), (.int q1)]))
  refine own_by (fun t k => XS.isub X0.here hx rfl (hb hby own_d1_2) rfl k) ?_
  show own_Go p.tables e below K (s₁.setTop (mkF m 3 #[.val (.int q1), .unset] [(.int (q1 - (4 : Int32)))]))
  refine own_by (fun t k => XS.istoreN X0.here hx rfl (hb hby own_d1_3) rfl (l' := #[.val (.int q1), .val (.int (q1 - (4 : Int32)))]) rfl k) ?_
  show own_Go p.tables e below K (s₁.setTop (mkF m 4 #[.val (.int q1), .val (.int (q1 - (4 : Int32)))] []))
  refine own_by (fun t k => XS.iloadN X0.here hx rfl (hb hby own_d1_4) rfl k) ?_
  show own_Go p.tables e below K (s₁.setTop (mkF m 5 #[.val (.int q1), .val (.int (q1 - (4 : Int32)))] [(.int (q1 - (4 : Int32)))]))
  refine own_by (fun t k => XS.iloadN X0.here hx rfl (hb hby own_d1_5) rfl k) ?_
  show own_Go p.tables e below K (s₁.setTop (mkF m 6 #[.val (.int q1), .val (.int (q1 - (4 : Int32)))] [(.int (q1 - (4 : Int32))), (.int (q1 - (4 : Int32)))]))
  refine own_by (fun t k => XS.imul X0.here hx rfl (hb hby own_d1_6) rfl k) ?_
  show own_Go p.tables e below K (s₁.setTop (mkF m 7 #[.val (.int q1), .val (.int (q1 - (4 : Int32)))] [(.int ((q1 - (4 : Int32)) * (q1 - (4 : Int32))))]))
  exact own_retI X0 hx hret (hb hby own_d1_7) (hK (some (.int ((q1 - (4 : Int32)) * (q1 - (4 : Int32))))) X0 (fun h => by rw [hret] at h; cases h) (⟨rfl, N0, e0⟩) (by decide) (by decide))
theorem own_up {s : Int32} {N M : Nat} (h : own_is s N) (hm : N ≤ M) : own_is s M := by obtain ⟨i, hi, e⟩ := h; exact ⟨i, by omega, e⟩
theorem own_pn2 : plainName "com/example/manyfront/manyfront/problems/Dtlz" = true := by first | (simp [plainName, overriddenIn]; done) | decide +kernel
theorem own_d2_0 : decode prog_50_method_5_code 0 = .ok (.dconst 0, 1) := by decide +kernel
theorem own_d2_1 : decode prog_50_method_5_code 1 = .ok (.dstore_n 2, 1) := by decide +kernel
theorem own_d2_2 : decode prog_50_method_5_code 2 = .ok (.iload_n 1, 1) := by decide +kernel
theorem own_d2_3 : decode prog_50_method_5_code 3 = .ok (.iconst 1, 1) := by decide +kernel
theorem own_d2_4 : decode prog_50_method_5_code 4 = .ok (.isub, 1) := by decide +kernel
theorem own_d2_5 : decode prog_50_method_5_code 5 = .ok (.istore 4, 2) := by decide +kernel
theorem own_d2_7 : decode prog_50_method_5_code 7 = .ok (.iload 4, 2) := by decide +kernel
theorem own_d2_9 : decode prog_50_method_5_code 9 = .ok (.aload_n 0, 1) := by decide +kernel
theorem own_d2_10 : decode prog_50_method_5_code 10 = .ok (.arraylength, 1) := by decide +kernel
theorem own_d2_11 : decode prog_50_method_5_code 11 = .ok (.if_icmp .ge 27, 3) := by decide +kernel
theorem own_d2_14 : decode prog_50_method_5_code 14 = .ok (.aload_n 0, 1) := by decide +kernel
theorem own_d2_15 : decode prog_50_method_5_code 15 = .ok (.iload 4, 2) := by decide +kernel
theorem own_d2_17 : decode prog_50_method_5_code 17 = .ok (.daload, 1) := by decide +kernel
theorem own_d2_18 : decode prog_50_method_5_code 18 = .ok (.ldc2_w 28, 3) := by decide +kernel
theorem own_d2_21 : decode prog_50_method_5_code 21 = .ok (.dsub, 1) := by decide +kernel
theorem own_d2_22 : decode prog_50_method_5_code 22 = .ok (.dstore 5, 2) := by decide +kernel
theorem own_d2_24 : decode prog_50_method_5_code 24 = .ok (.dload_n 2, 1) := by decide +kernel
theorem own_d2_25 : decode prog_50_method_5_code 25 = .ok (.dload 5, 2) := by decide +kernel
theorem own_d2_27 : decode prog_50_method_5_code 27 = .ok (.dload 5, 2) := by decide +kernel
theorem own_d2_29 : decode prog_50_method_5_code 29 = .ok (.dmul, 1) := by decide +kernel
theorem own_d2_30 : decode prog_50_method_5_code 30 = .ok (.dadd, 1) := by decide +kernel
theorem own_d2_31 : decode prog_50_method_5_code 31 = .ok (.dstore_n 2, 1) := by decide +kernel
theorem own_d2_32 : decode prog_50_method_5_code 32 = .ok (.iinc 4 1, 3) := by decide +kernel
theorem own_d2_35 : decode prog_50_method_5_code 35 = .ok (.goto (-28), 3) := by decide +kernel
theorem own_d2_38 : decode prog_50_method_5_code 38 = .ok (.dload_n 2, 1) := by decide +kernel
theorem own_d2_39 : decode prog_50_method_5_code 39 = .ok (.dreturn, 1) := by decide +kernel
theorem own_efsd2 (m : MethodId) (ra : Addr) : entryFrame m #[(.ref ra), (.int (2 : Int32))] 7 = mkF m 0 #[.val (.ref ra), .val (.int (2 : Int32)), .unset, .unset, .unset, .unset, .unset] [] := by first | (simp [entryFrame, mkF, argsToLocals, Value.category]; done) | rfl
def own_Qsd2 (Z : State) (ra : Addr) (ka : ClassId) (k1 : Int32) (k2 : Int32) (k3 : Int32) (k4 : Int32) (h0 : Heap) (n0 : Nat) (v : Option Value) (h : Heap) (L : List Loc) : Prop := v = some (.double (own_T ((((0 : Int32) + own_sq k2) + own_sq k3) + own_sq k4))) ∧ Fr n0 L ∧ h = h0
set_option maxRecDepth 65536 in
set_option maxHeartbeats 40000000 in
theorem own_rmsd2 (l : Launch) (Z : State) (aw : Array Value) (hw : ∀ d ∈ tables_1, d.before aw Z = true) (ws : List Jvm.Cond) (ra : Addr) (ka : ClassId) (k1 : Int32) (k2 : Int32) (k3 : Int32) (k4 : Int32) (h0 : Heap) (n0 : Nat) (Z0 : n0 ≤ h0.size) (VA : Arv Z h0 ra ka .double (4 : Int32) [(.double (own_X k1)), (.double (own_X k2)), (.double (own_X k3)), (.double (own_X k4))] (.double (FP.l2d 0))) (hk1 : own_is k1 8) (hk2 : own_is k2 8) (hk3 : own_is k3 8) (hk4 : own_is k4 8) :
    MetFree l (⟨"com/example/manyfront/manyfront/problems/Dtlz", "sphereDistance", "([DI)D"⟩ : MethodName) (head1 (Jvm.Cond.code (⟨"com/example/manyfront/manyfront/problems/Dtlz", "sphereDistance", "([DI)D"⟩ : MethodName) prog_50_method_5_code 7 (some .double) :: ws) ({ frames := 0, cells := 0, slots := 0, locals := 0 } : Room)) (fun a U => a = #[(.ref ra), (.int (2 : Int32))] ∧ Z.Warmed39 U.vm ∧ U.heap = h0) (fun _ _ _ _ _ => True) (fun _ U o U' => ∃ v L, o = .returned v ∧ own_Qsd2 Z ra ka k1 k2 k3 k4 h0 n0 v U'.heap L ∧ FrameEnd U o U' L ({ frames := 0, cells := 0, slots := 0, locals := 0 } : Room).cells ({ frames := 0, cells := 0, slots := 0, locals := 0 } : Room).slots) := by
  refine own_met (Q := own_Qsd2 Z ra ka k1 k2 k3 k4 h0 n0) (plainFor_of_name own_pn2) ?_
  intro p e s m below meth c s₁ K hx hby hml hown hnm hret hZ X0 e0 hK
  have hown : s.vm.findClass "com/example/manyfront/manyfront/problems/Dtlz" = some m.cls := hown
  have N0 := Fr.nil n0
  refine own_by (fun t k => castTop (own_efsd2 m ra) k) ?_
  show own_Go p.tables e below K (s₁.setTop (mkF m 0 #[.val (.ref ra), .val (.int (2 : Int32)), .unset, .unset, .unset, .unset, .unset] []))
  refine own_by (fun t k => XS.dconst0 X0.here hx rfl (hb hby own_d2_0) own_T0 k) ?_
  show own_Go p.tables e below K (s₁.setTop (mkF m 1 #[.val (.ref ra), .val (.int (2 : Int32)), .unset, .unset, .unset, .unset, .unset] [(.double (own_T (0 : Int32)))]))
  refine own_by (fun t k => XS.dstoreN X0.here hx rfl (hb hby own_d2_1) rfl (l' := #[.val (.ref ra), .val (.int (2 : Int32)), .val (.double (own_T (0 : Int32))), .second, .unset, .unset, .unset]) rfl k) ?_
  show own_Go p.tables e below K (s₁.setTop (mkF m 2 #[.val (.ref ra), .val (.int (2 : Int32)), .val (.double (own_T (0 : Int32))), .second, .unset, .unset, .unset] []))
  refine own_by (fun t k => XS.iloadN X0.here hx rfl (hb hby own_d2_2) rfl k) ?_
  show own_Go p.tables e below K (s₁.setTop (mkF m 3 #[.val (.ref ra), .val (.int (2 : Int32)), .val (.double (own_T (0 : Int32))), .second, .unset, .unset, .unset] [(.int (2 : Int32))]))
  refine own_by (fun t k => XS.iconst X0.here hx rfl (hb hby own_d2_3) k) ?_
  show own_Go p.tables e below K (s₁.setTop (mkF m 4 #[.val (.ref ra), .val (.int (2 : Int32)), .val (.double (own_T (0 : Int32))), .second, .unset, .unset, .unset] [(.int (1 : Int32)), (.int (2 : Int32))]))
  refine own_by (fun t k => XS.isub X0.here hx rfl (hb hby own_d2_4) rfl k) ?_
  show own_Go p.tables e below K (s₁.setTop (mkF m 5 #[.val (.ref ra), .val (.int (2 : Int32)), .val (.double (own_T (0 : Int32))), .second, .unset, .unset, .unset] [(.int (1 : Int32))]))
  refine own_by (fun t k => XS.istore X0.here hx rfl (hb hby own_d2_5) rfl (l' := #[.val (.ref ra), .val (.int (2 : Int32)), .val (.double (own_T (0 : Int32))), .second, .val (.int (1 : Int32)), .unset, .unset]) rfl k) ?_
  show own_Go p.tables e below K (s₁.setTop (mkF m 7 #[.val (.ref ra), .val (.int (2 : Int32)), .val (.double (own_T (0 : Int32))), .second, .val (.int (1 : Int32)), .unset, .unset] []))
  refine own_by (fun t k => XS.iload X0.here hx rfl (hb hby own_d2_7) rfl k) ?_
  show own_Go p.tables e below K (s₁.setTop (mkF m 9 #[.val (.ref ra), .val (.int (2 : Int32)), .val (.double (own_T (0 : Int32))), .second, .val (.int (1 : Int32)), .unset, .unset] [(.int (1 : Int32))]))
  refine own_by (fun t k => XS.aloadN X0.here hx rfl (hb hby own_d2_9) rfl rfl k) ?_
  show own_Go p.tables e below K (s₁.setTop (mkF m 10 #[.val (.ref ra), .val (.int (2 : Int32)), .val (.double (own_T (0 : Int32))), .second, .val (.int (1 : Int32)), .unset, .unset] [(.ref ra), (.int (1 : Int32))]))
  obtain ⟨cl1, Ar1, -, S1, M1, -, -⟩ := id VA
  refine own_by (fun t k => X0.arraylength hx (by rw [e0]; exact Ar1.1) (State.isArrayOf_alike hZ.alike Ar1.2.1) (g := (mkF m 10 #[.val (.ref ra), .val (.int (2 : Int32)), .val (.double (own_T (0 : Int32))), .second, .val (.int (1 : Int32)), .unset, .unset] [(.ref ra), (.int (1 : Int32))])) rfl rfl (hb hby own_d2_10) t k) ?_
  rw [len_of S1 M1]
  show own_Go p.tables e below K (s₁.setTop (mkF m 11 #[.val (.ref ra), .val (.int (2 : Int32)), .val (.double (own_T (0 : Int32))), .second, .val (.int (1 : Int32)), .unset, .unset] [(.int (4 : Int32)), (.int (1 : Int32))]))
  have hc11 : (1 : Int32) < (4 : Int32) := by decide
  refine own_by (fun t k => XS.icmpNo X0.here hx rfl (hb hby own_d2_11) rfl (tlt hc11).2.1 k) ?_
  show own_Go p.tables e below K (s₁.setTop (mkF m 14 #[.val (.ref ra), .val (.int (2 : Int32)), .val (.double (own_T (0 : Int32))), .second, .val (.int (1 : Int32)), .unset, .unset] []))
  refine own_by (fun t k => XS.aloadN X0.here hx rfl (hb hby own_d2_14) rfl rfl k) ?_
  show own_Go p.tables e below K (s₁.setTop (mkF m 15 #[.val (.ref ra), .val (.int (2 : Int32)), .val (.double (own_T (0 : Int32))), .second, .val (.int (1 : Int32)), .unset, .unset] [(.ref ra)]))
  refine own_by (fun t k => XS.iload X0.here hx rfl (hb hby own_d2_15) rfl k) ?_
  show own_Go p.tables e below K (s₁.setTop (mkF m 17 #[.val (.ref ra), .val (.int (2 : Int32)), .val (.double (own_T (0 : Int32))), .second, .val (.int (1 : Int32)), .unset, .unset] [(.int (1 : Int32)), (.ref ra)]))
  obtain ⟨cl2, Ar2, -, S2, M2, H2, -⟩ := id VA
  refine own_by (fun t k => X0.daload hx (j := (1 : Int32)) (v := (.double (own_X k2))) (by rw [e0]; exact Ar2.1) (State.isArrayOf_alike hZ.alike Ar2.2.1) Ar2.2.2 (inb_of S2 ⟨by decide, by decide⟩) (H2 1 (by rw [S2]; decide)) (g := (mkF m 17 #[.val (.ref ra), .val (.int (2 : Int32)), .val (.double (own_T (0 : Int32))), .second, .val (.int (1 : Int32)), .unset, .unset] [(.int (1 : Int32)), (.ref ra)])) rfl rfl (hb hby own_d2_17) t k) ?_
  show own_Go p.tables e below K (s₁.setTop (mkF m 18 #[.val (.ref ra), .val (.int (2 : Int32)), .val (.double (own_T (0 : Int32))), .second, .val (.int (1 : Int32)), .unset, .unset] [(.double (own_X k2))]))
  refine own_by (fun t k => X0.ldc2DoubleC hx hown (mvT hZ (hw _ (List.mem_of_getElem? (i := 12) rfl))) (g := (mkF m 18 #[.val (.ref ra), .val (.int (2 : Int32)), .val (.double (own_T (0 : Int32))), .second, .val (.int (1 : Int32)), .unset, .unset] [(.double (own_X k2))])) rfl (hb hby own_d2_18) _ k) ?_
  show own_Go p.tables e below K (s₁.setTop (mkF m 21 #[.val (.ref ra), .val (.int (2 : Int32)), .val (.double (own_T (0 : Int32))), .second, .val (.int (1 : Int32)), .unset, .unset] [(.double (4602678819172646912 : UInt64)), (.double (own_X k2))]))
  refine own_by (fun t k => XS.dsubS X0.here hx rfl (hb hby own_d2_21) rfl (own_fD hk2) rfl k) ?_
  show own_Go p.tables e below K (s₁.setTop (mkF m 22 #[.val (.ref ra), .val (.int (2 : Int32)), .val (.double (own_T (0 : Int32))), .second, .val (.int (1 : Int32)), .unset, .unset] [(.double (own_D k2))]))
  refine own_by (fun t k => XS.dstore X0.here hx rfl (hb hby own_d2_22) rfl (l' := #[.val (.ref ra), .val (.int (2 : Int32)), .val (.double (own_T (0 : Int32))), .second, .val (.int (1 : Int32)), .val (.double (own_D k2)), .second]) rfl k) ?_
  show own_Go p.tables e below K (s₁.setTop (mkF m 24 #[.val (.ref ra), .val (.int (2 : Int32)), .val (.double (own_T (0 : Int32))), .second, .val (.int (1 : Int32)), .val (.double (own_D k2)), .second] []))
  refine own_by (fun t k => XS.dloadN X0.here hx rfl (hb hby own_d2_24) rfl k) ?_
  show own_Go p.tables e below K (s₁.setTop (mkF m 25 #[.val (.ref ra), .val (.int (2 : Int32)), .val (.double (own_T (0 : Int32))), .second, .val (.int (1 : Int32)), .val (.double (own_D k2)), .second] [(.double (own_T (0 : Int32)))]))
  refine own_by (fun t k => XS.dload X0.here hx rfl (hb hby own_d2_25) rfl k) ?_
  show own_Go p.tables e below K (s₁.setTop (mkF m 27 #[.val (.ref ra), .val (.int (2 : Int32)), .val (.double (own_T (0 : Int32))), .second, .val (.int (1 : Int32)), .val (.double (own_D k2)), .second] [(.double (own_D k2)), (.double (own_T (0 : Int32)))]))
  refine own_by (fun t k => XS.dload X0.here hx rfl (hb hby own_d2_27) rfl k) ?_
  show own_Go p.tables e below K (s₁.setTop (mkF m 29 #[.val (.ref ra), .val (.int (2 : Int32)), .val (.double (own_T (0 : Int32))), .second, .val (.int (1 : Int32)), .val (.double (own_D k2)), .second] [(.double (own_D k2)), (.double (own_D k2)), (.double (own_T (0 : Int32)))]))
  refine own_by (fun t k => XS.dmulS X0.here hx rfl (hb hby own_d2_29) rfl (by rw [(own_fM hk2).1]; exact own_nT (own_up (own_fM hk2).2 (by decide))) (own_fM hk2).1 k) ?_
  show own_Go p.tables e below K (s₁.setTop (mkF m 30 #[.val (.ref ra), .val (.int (2 : Int32)), .val (.double (own_T (0 : Int32))), .second, .val (.int (1 : Int32)), .val (.double (own_D k2)), .second] [(.double (own_T (own_sq k2))), (.double (own_T (0 : Int32)))]))
  have hA3 := own_fA (own_up (⟨0, by decide, rfl⟩ : own_is 0 0) (by decide)) (own_fM hk2).2
  have hI3 := own_is_add (⟨0, by decide, rfl⟩ : own_is 0 0) (own_fM hk2).2
  refine own_by (fun t k => XS.daddS X0.here hx rfl (hb hby own_d2_30) rfl (by rw [hA3]; exact own_nT (own_up hI3 (by decide))) hA3 k) ?_
  show own_Go p.tables e below K (s₁.setTop (mkF m 31 #[.val (.ref ra), .val (.int (2 : Int32)), .val (.double (own_T (0 : Int32))), .second, .val (.int (1 : Int32)), .val (.double (own_D k2)), .second] [(.double (own_T ((0 : Int32) + own_sq k2)))]))
  refine own_by (fun t k => XS.dstoreN X0.here hx rfl (hb hby own_d2_31) rfl (l' := #[.val (.ref ra), .val (.int (2 : Int32)), .val (.double (own_T ((0 : Int32) + own_sq k2))), .second, .val (.int (1 : Int32)), .val (.double (own_D k2)), .second]) rfl k) ?_
  show own_Go p.tables e below K (s₁.setTop (mkF m 32 #[.val (.ref ra), .val (.int (2 : Int32)), .val (.double (own_T ((0 : Int32) + own_sq k2))), .second, .val (.int (1 : Int32)), .val (.double (own_D k2)), .second] []))
  refine own_by (fun t k => XS.iinc X0.here hx rfl (hb hby own_d2_32) rfl (l' := #[.val (.ref ra), .val (.int (2 : Int32)), .val (.double (own_T ((0 : Int32) + own_sq k2))), .second, .val (.int (2 : Int32)), .val (.double (own_D k2)), .second]) rfl k) ?_
  show own_Go p.tables e below K (s₁.setTop (mkF m 35 #[.val (.ref ra), .val (.int (2 : Int32)), .val (.double (own_T ((0 : Int32) + own_sq k2))), .second, .val (.int (2 : Int32)), .val (.double (own_D k2)), .second] []))
  refine own_by (fun t k => XS.goto X0.here hx rfl (pc0 := 35) (pc' := 7) rfl (hb hby own_d2_35) (by decide) (by decide) k) ?_
  show own_Go p.tables e below K (s₁.setTop (mkF m 7 #[.val (.ref ra), .val (.int (2 : Int32)), .val (.double (own_T ((0 : Int32) + own_sq k2))), .second, .val (.int (2 : Int32)), .val (.double (own_D k2)), .second] []))
  refine own_by (fun t k => XS.iload X0.here hx rfl (hb hby own_d2_7) rfl k) ?_
  show own_Go p.tables e below K (s₁.setTop (mkF m 9 #[.val (.ref ra), .val (.int (2 : Int32)), .val (.double (own_T ((0 : Int32) + own_sq k2))), .second, .val (.int (2 : Int32)), .val (.double (own_D k2)), .second] [(.int (2 : Int32))]))
  refine own_by (fun t k => XS.aloadN X0.here hx rfl (hb hby own_d2_9) rfl rfl k) ?_
  show own_Go p.tables e below K (s₁.setTop (mkF m 10 #[.val (.ref ra), .val (.int (2 : Int32)), .val (.double (own_T ((0 : Int32) + own_sq k2))), .second, .val (.int (2 : Int32)), .val (.double (own_D k2)), .second] [(.ref ra), (.int (2 : Int32))]))
  obtain ⟨cl4, Ar4, -, S4, M4, -, -⟩ := id VA
  refine own_by (fun t k => X0.arraylength hx (by rw [e0]; exact Ar4.1) (State.isArrayOf_alike hZ.alike Ar4.2.1) (g := (mkF m 10 #[.val (.ref ra), .val (.int (2 : Int32)), .val (.double (own_T ((0 : Int32) + own_sq k2))), .second, .val (.int (2 : Int32)), .val (.double (own_D k2)), .second] [(.ref ra), (.int (2 : Int32))])) rfl rfl (hb hby own_d2_10) t k) ?_
  rw [len_of S4 M4]
  show own_Go p.tables e below K (s₁.setTop (mkF m 11 #[.val (.ref ra), .val (.int (2 : Int32)), .val (.double (own_T ((0 : Int32) + own_sq k2))), .second, .val (.int (2 : Int32)), .val (.double (own_D k2)), .second] [(.int (4 : Int32)), (.int (2 : Int32))]))
  have hc11 : (2 : Int32) < (4 : Int32) := by decide
  refine own_by (fun t k => XS.icmpNo X0.here hx rfl (hb hby own_d2_11) rfl (tlt hc11).2.1 k) ?_
  show own_Go p.tables e below K (s₁.setTop (mkF m 14 #[.val (.ref ra), .val (.int (2 : Int32)), .val (.double (own_T ((0 : Int32) + own_sq k2))), .second, .val (.int (2 : Int32)), .val (.double (own_D k2)), .second] []))
  refine own_by (fun t k => XS.aloadN X0.here hx rfl (hb hby own_d2_14) rfl rfl k) ?_
  show own_Go p.tables e below K (s₁.setTop (mkF m 15 #[.val (.ref ra), .val (.int (2 : Int32)), .val (.double (own_T ((0 : Int32) + own_sq k2))), .second, .val (.int (2 : Int32)), .val (.double (own_D k2)), .second] [(.ref ra)]))
  refine own_by (fun t k => XS.iload X0.here hx rfl (hb hby own_d2_15) rfl k) ?_
  show own_Go p.tables e below K (s₁.setTop (mkF m 17 #[.val (.ref ra), .val (.int (2 : Int32)), .val (.double (own_T ((0 : Int32) + own_sq k2))), .second, .val (.int (2 : Int32)), .val (.double (own_D k2)), .second] [(.int (2 : Int32)), (.ref ra)]))
  obtain ⟨cl5, Ar5, -, S5, M5, H5, -⟩ := id VA
  refine own_by (fun t k => X0.daload hx (j := (2 : Int32)) (v := (.double (own_X k3))) (by rw [e0]; exact Ar5.1) (State.isArrayOf_alike hZ.alike Ar5.2.1) Ar5.2.2 (inb_of S5 ⟨by decide, by decide⟩) (H5 2 (by rw [S5]; decide)) (g := (mkF m 17 #[.val (.ref ra), .val (.int (2 : Int32)), .val (.double (own_T ((0 : Int32) + own_sq k2))), .second, .val (.int (2 : Int32)), .val (.double (own_D k2)), .second] [(.int (2 : Int32)), (.ref ra)])) rfl rfl (hb hby own_d2_17) t k) ?_
  show own_Go p.tables e below K (s₁.setTop (mkF m 18 #[.val (.ref ra), .val (.int (2 : Int32)), .val (.double (own_T ((0 : Int32) + own_sq k2))), .second, .val (.int (2 : Int32)), .val (.double (own_D k2)), .second] [(.double (own_X k3))]))
  refine own_by (fun t k => X0.ldc2DoubleC hx hown (mvT hZ (hw _ (List.mem_of_getElem? (i := 12) rfl))) (g := (mkF m 18 #[.val (.ref ra), .val (.int (2 : Int32)), .val (.double (own_T ((0 : Int32) + own_sq k2))), .second, .val (.int (2 : Int32)), .val (.double (own_D k2)), .second] [(.double (own_X k3))])) rfl (hb hby own_d2_18) _ k) ?_
  show own_Go p.tables e below K (s₁.setTop (mkF m 21 #[.val (.ref ra), .val (.int (2 : Int32)), .val (.double (own_T ((0 : Int32) + own_sq k2))), .second, .val (.int (2 : Int32)), .val (.double (own_D k2)), .second] [(.double (4602678819172646912 : UInt64)), (.double (own_X k3))]))
  refine own_by (fun t k => XS.dsubS X0.here hx rfl (hb hby own_d2_21) rfl (own_fD hk3) rfl k) ?_
  show own_Go p.tables e below K (s₁.setTop (mkF m 22 #[.val (.ref ra), .val (.int (2 : Int32)), .val (.double (own_T ((0 : Int32) + own_sq k2))), .second, .val (.int (2 : Int32)), .val (.double (own_D k2)), .second] [(.double (own_D k3))]))
  refine own_by (fun t k => XS.dstore X0.here hx rfl (hb hby own_d2_22) rfl (l' := #[.val (.ref ra), .val (.int (2 : Int32)), .val (.double (own_T ((0 : Int32) + own_sq k2))), .second, .val (.int (2 : Int32)), .val (.double (own_D k3)), .second]) rfl k) ?_
  show own_Go p.tables e below K (s₁.setTop (mkF m 24 #[.val (.ref ra), .val (.int (2 : Int32)), .val (.double (own_T ((0 : Int32) + own_sq k2))), .second, .val (.int (2 : Int32)), .val (.double (own_D k3)), .second] []))
  refine own_by (fun t k => XS.dloadN X0.here hx rfl (hb hby own_d2_24) rfl k) ?_
  show own_Go p.tables e below K (s₁.setTop (mkF m 25 #[.val (.ref ra), .val (.int (2 : Int32)), .val (.double (own_T ((0 : Int32) + own_sq k2))), .second, .val (.int (2 : Int32)), .val (.double (own_D k3)), .second] [(.double (own_T ((0 : Int32) + own_sq k2)))]))
  refine own_by (fun t k => XS.dload X0.here hx rfl (hb hby own_d2_25) rfl k) ?_
  show own_Go p.tables e below K (s₁.setTop (mkF m 27 #[.val (.ref ra), .val (.int (2 : Int32)), .val (.double (own_T ((0 : Int32) + own_sq k2))), .second, .val (.int (2 : Int32)), .val (.double (own_D k3)), .second] [(.double (own_D k3)), (.double (own_T ((0 : Int32) + own_sq k2)))]))
  refine own_by (fun t k => XS.dload X0.here hx rfl (hb hby own_d2_27) rfl k) ?_
  show own_Go p.tables e below K (s₁.setTop (mkF m 29 #[.val (.ref ra), .val (.int (2 : Int32)), .val (.double (own_T ((0 : Int32) + own_sq k2))), .second, .val (.int (2 : Int32)), .val (.double (own_D k3)), .second] [(.double (own_D k3)), (.double (own_D k3)), (.double (own_T ((0 : Int32) + own_sq k2)))]))
  refine own_by (fun t k => XS.dmulS X0.here hx rfl (hb hby own_d2_29) rfl (by rw [(own_fM hk3).1]; exact own_nT (own_up (own_fM hk3).2 (by decide))) (own_fM hk3).1 k) ?_
  show own_Go p.tables e below K (s₁.setTop (mkF m 30 #[.val (.ref ra), .val (.int (2 : Int32)), .val (.double (own_T ((0 : Int32) + own_sq k2))), .second, .val (.int (2 : Int32)), .val (.double (own_D k3)), .second] [(.double (own_T (own_sq k3))), (.double (own_T ((0 : Int32) + own_sq k2)))]))
  have hA6 := own_fA (own_up hI3 (by decide)) (own_fM hk3).2
  have hI6 := own_is_add hI3 (own_fM hk3).2
  refine own_by (fun t k => XS.daddS X0.here hx rfl (hb hby own_d2_30) rfl (by rw [hA6]; exact own_nT (own_up hI6 (by decide))) hA6 k) ?_
  show own_Go p.tables e below K (s₁.setTop (mkF m 31 #[.val (.ref ra), .val (.int (2 : Int32)), .val (.double (own_T ((0 : Int32) + own_sq k2))), .second, .val (.int (2 : Int32)), .val (.double (own_D k3)), .second] [(.double (own_T (((0 : Int32) + own_sq k2) + own_sq k3)))]))
  refine own_by (fun t k => XS.dstoreN X0.here hx rfl (hb hby own_d2_31) rfl (l' := #[.val (.ref ra), .val (.int (2 : Int32)), .val (.double (own_T (((0 : Int32) + own_sq k2) + own_sq k3))), .second, .val (.int (2 : Int32)), .val (.double (own_D k3)), .second]) rfl k) ?_
  show own_Go p.tables e below K (s₁.setTop (mkF m 32 #[.val (.ref ra), .val (.int (2 : Int32)), .val (.double (own_T (((0 : Int32) + own_sq k2) + own_sq k3))), .second, .val (.int (2 : Int32)), .val (.double (own_D k3)), .second] []))
  refine own_by (fun t k => XS.iinc X0.here hx rfl (hb hby own_d2_32) rfl (l' := #[.val (.ref ra), .val (.int (2 : Int32)), .val (.double (own_T (((0 : Int32) + own_sq k2) + own_sq k3))), .second, .val (.int (3 : Int32)), .val (.double (own_D k3)), .second]) rfl k) ?_
  show own_Go p.tables e below K (s₁.setTop (mkF m 35 #[.val (.ref ra), .val (.int (2 : Int32)), .val (.double (own_T (((0 : Int32) + own_sq k2) + own_sq k3))), .second, .val (.int (3 : Int32)), .val (.double (own_D k3)), .second] []))
  refine own_by (fun t k => XS.goto X0.here hx rfl (pc0 := 35) (pc' := 7) rfl (hb hby own_d2_35) (by decide) (by decide) k) ?_
  show own_Go p.tables e below K (s₁.setTop (mkF m 7 #[.val (.ref ra), .val (.int (2 : Int32)), .val (.double (own_T (((0 : Int32) + own_sq k2) + own_sq k3))), .second, .val (.int (3 : Int32)), .val (.double (own_D k3)), .second] []))
  refine own_by (fun t k => XS.iload X0.here hx rfl (hb hby own_d2_7) rfl k) ?_
  show own_Go p.tables e below K (s₁.setTop (mkF m 9 #[.val (.ref ra), .val (.int (2 : Int32)), .val (.double (own_T (((0 : Int32) + own_sq k2) + own_sq k3))), .second, .val (.int (3 : Int32)), .val (.double (own_D k3)), .second] [(.int (3 : Int32))]))
  refine own_by (fun t k => XS.aloadN X0.here hx rfl (hb hby own_d2_9) rfl rfl k) ?_
  show own_Go p.tables e below K (s₁.setTop (mkF m 10 #[.val (.ref ra), .val (.int (2 : Int32)), .val (.double (own_T (((0 : Int32) + own_sq k2) + own_sq k3))), .second, .val (.int (3 : Int32)), .val (.double (own_D k3)), .second] [(.ref ra), (.int (3 : Int32))]))
  obtain ⟨cl7, Ar7, -, S7, M7, -, -⟩ := id VA
  refine own_by (fun t k => X0.arraylength hx (by rw [e0]; exact Ar7.1) (State.isArrayOf_alike hZ.alike Ar7.2.1) (g := (mkF m 10 #[.val (.ref ra), .val (.int (2 : Int32)), .val (.double (own_T (((0 : Int32) + own_sq k2) + own_sq k3))), .second, .val (.int (3 : Int32)), .val (.double (own_D k3)), .second] [(.ref ra), (.int (3 : Int32))])) rfl rfl (hb hby own_d2_10) t k) ?_
  rw [len_of S7 M7]
  show own_Go p.tables e below K (s₁.setTop (mkF m 11 #[.val (.ref ra), .val (.int (2 : Int32)), .val (.double (own_T (((0 : Int32) + own_sq k2) + own_sq k3))), .second, .val (.int (3 : Int32)), .val (.double (own_D k3)), .second] [(.int (4 : Int32)), (.int (3 : Int32))]))
  have hc11 : (3 : Int32) < (4 : Int32) := by decide
  refine own_by (fun t k => XS.icmpNo X0.here hx rfl (hb hby own_d2_11) rfl (tlt hc11).2.1 k) ?_
  show own_Go p.tables e below K (s₁.setTop (mkF m 14 #[.val (.ref ra), .val (.int (2 : Int32)), .val (.double (own_T (((0 : Int32) + own_sq k2) + own_sq k3))), .second, .val (.int (3 : Int32)), .val (.double (own_D k3)), .second] []))
  refine own_by (fun t k => XS.aloadN X0.here hx rfl (hb hby own_d2_14) rfl rfl k) ?_
  show own_Go p.tables e below K (s₁.setTop (mkF m 15 #[.val (.ref ra), .val (.int (2 : Int32)), .val (.double (own_T (((0 : Int32) + own_sq k2) + own_sq k3))), .second, .val (.int (3 : Int32)), .val (.double (own_D k3)), .second] [(.ref ra)]))
  refine own_by (fun t k => XS.iload X0.here hx rfl (hb hby own_d2_15) rfl k) ?_
  show own_Go p.tables e below K (s₁.setTop (mkF m 17 #[.val (.ref ra), .val (.int (2 : Int32)), .val (.double (own_T (((0 : Int32) + own_sq k2) + own_sq k3))), .second, .val (.int (3 : Int32)), .val (.double (own_D k3)), .second] [(.int (3 : Int32)), (.ref ra)]))
  obtain ⟨cl8, Ar8, -, S8, M8, H8, -⟩ := id VA
  refine own_by (fun t k => X0.daload hx (j := (3 : Int32)) (v := (.double (own_X k4))) (by rw [e0]; exact Ar8.1) (State.isArrayOf_alike hZ.alike Ar8.2.1) Ar8.2.2 (inb_of S8 ⟨by decide, by decide⟩) (H8 3 (by rw [S8]; decide)) (g := (mkF m 17 #[.val (.ref ra), .val (.int (2 : Int32)), .val (.double (own_T (((0 : Int32) + own_sq k2) + own_sq k3))), .second, .val (.int (3 : Int32)), .val (.double (own_D k3)), .second] [(.int (3 : Int32)), (.ref ra)])) rfl rfl (hb hby own_d2_17) t k) ?_
  show own_Go p.tables e below K (s₁.setTop (mkF m 18 #[.val (.ref ra), .val (.int (2 : Int32)), .val (.double (own_T (((0 : Int32) + own_sq k2) + own_sq k3))), .second, .val (.int (3 : Int32)), .val (.double (own_D k3)), .second] [(.double (own_X k4))]))
  refine own_by (fun t k => X0.ldc2DoubleC hx hown (mvT hZ (hw _ (List.mem_of_getElem? (i := 12) rfl))) (g := (mkF m 18 #[.val (.ref ra), .val (.int (2 : Int32)), .val (.double (own_T (((0 : Int32) + own_sq k2) + own_sq k3))), .second, .val (.int (3 : Int32)), .val (.double (own_D k3)), .second] [(.double (own_X k4))])) rfl (hb hby own_d2_18) _ k) ?_
  show own_Go p.tables e below K (s₁.setTop (mkF m 21 #[.val (.ref ra), .val (.int (2 : Int32)), .val (.double (own_T (((0 : Int32) + own_sq k2) + own_sq k3))), .second, .val (.int (3 : Int32)), .val (.double (own_D k3)), .second] [(.double (4602678819172646912 : UInt64)), (.double (own_X k4))]))
  refine own_by (fun t k => XS.dsubS X0.here hx rfl (hb hby own_d2_21) rfl (own_fD hk4) rfl k) ?_
  show own_Go p.tables e below K (s₁.setTop (mkF m 22 #[.val (.ref ra), .val (.int (2 : Int32)), .val (.double (own_T (((0 : Int32) + own_sq k2) + own_sq k3))), .second, .val (.int (3 : Int32)), .val (.double (own_D k3)), .second] [(.double (own_D k4))]))
  refine own_by (fun t k => XS.dstore X0.here hx rfl (hb hby own_d2_22) rfl (l' := #[.val (.ref ra), .val (.int (2 : Int32)), .val (.double (own_T (((0 : Int32) + own_sq k2) + own_sq k3))), .second, .val (.int (3 : Int32)), .val (.double (own_D k4)), .second]) rfl k) ?_
  show own_Go p.tables e below K (s₁.setTop (mkF m 24 #[.val (.ref ra), .val (.int (2 : Int32)), .val (.double (own_T (((0 : Int32) + own_sq k2) + own_sq k3))), .second, .val (.int (3 : Int32)), .val (.double (own_D k4)), .second] []))
  refine own_by (fun t k => XS.dloadN X0.here hx rfl (hb hby own_d2_24) rfl k) ?_
  show own_Go p.tables e below K (s₁.setTop (mkF m 25 #[.val (.ref ra), .val (.int (2 : Int32)), .val (.double (own_T (((0 : Int32) + own_sq k2) + own_sq k3))), .second, .val (.int (3 : Int32)), .val (.double (own_D k4)), .second] [(.double (own_T (((0 : Int32) + own_sq k2) + own_sq k3)))]))
  refine own_by (fun t k => XS.dload X0.here hx rfl (hb hby own_d2_25) rfl k) ?_
  show own_Go p.tables e below K (s₁.setTop (mkF m 27 #[.val (.ref ra), .val (.int (2 : Int32)), .val (.double (own_T (((0 : Int32) + own_sq k2) + own_sq k3))), .second, .val (.int (3 : Int32)), .val (.double (own_D k4)), .second] [(.double (own_D k4)), (.double (own_T (((0 : Int32) + own_sq k2) + own_sq k3)))]))
  refine own_by (fun t k => XS.dload X0.here hx rfl (hb hby own_d2_27) rfl k) ?_
  show own_Go p.tables e below K (s₁.setTop (mkF m 29 #[.val (.ref ra), .val (.int (2 : Int32)), .val (.double (own_T (((0 : Int32) + own_sq k2) + own_sq k3))), .second, .val (.int (3 : Int32)), .val (.double (own_D k4)), .second] [(.double (own_D k4)), (.double (own_D k4)), (.double (own_T (((0 : Int32) + own_sq k2) + own_sq k3)))]))
  refine own_by (fun t k => XS.dmulS X0.here hx rfl (hb hby own_d2_29) rfl (by rw [(own_fM hk4).1]; exact own_nT (own_up (own_fM hk4).2 (by decide))) (own_fM hk4).1 k) ?_
  show own_Go p.tables e below K (s₁.setTop (mkF m 30 #[.val (.ref ra), .val (.int (2 : Int32)), .val (.double (own_T (((0 : Int32) + own_sq k2) + own_sq k3))), .second, .val (.int (3 : Int32)), .val (.double (own_D k4)), .second] [(.double (own_T (own_sq k4))), (.double (own_T (((0 : Int32) + own_sq k2) + own_sq k3)))]))
  have hA9 := own_fA (own_up hI6 (by decide)) (own_fM hk4).2
  have hI9 := own_is_add hI6 (own_fM hk4).2
  refine own_by (fun t k => XS.daddS X0.here hx rfl (hb hby own_d2_30) rfl (by rw [hA9]; exact own_nT (own_up hI9 (by decide))) hA9 k) ?_
  show own_Go p.tables e below K (s₁.setTop (mkF m 31 #[.val (.ref ra), .val (.int (2 : Int32)), .val (.double (own_T (((0 : Int32) + own_sq k2) + own_sq k3))), .second, .val (.int (3 : Int32)), .val (.double (own_D k4)), .second] [(.double (own_T ((((0 : Int32) + own_sq k2) + own_sq k3) + own_sq k4)))]))
  refine own_by (fun t k => XS.dstoreN X0.here hx rfl (hb hby own_d2_31) rfl (l' := #[.val (.ref ra), .val (.int (2 : Int32)), .val (.double (own_T ((((0 : Int32) + own_sq k2) + own_sq k3) + own_sq k4))), .second, .val (.int (3 : Int32)), .val (.double (own_D k4)), .second]) rfl k) ?_
  show own_Go p.tables e below K (s₁.setTop (mkF m 32 #[.val (.ref ra), .val (.int (2 : Int32)), .val (.double (own_T ((((0 : Int32) + own_sq k2) + own_sq k3) + own_sq k4))), .second, .val (.int (3 : Int32)), .val (.double (own_D k4)), .second] []))
  refine own_by (fun t k => XS.iinc X0.here hx rfl (hb hby own_d2_32) rfl (l' := #[.val (.ref ra), .val (.int (2 : Int32)), .val (.double (own_T ((((0 : Int32) + own_sq k2) + own_sq k3) + own_sq k4))), .second, .val (.int (4 : Int32)), .val (.double (own_D k4)), .second]) rfl k) ?_
  show own_Go p.tables e below K (s₁.setTop (mkF m 35 #[.val (.ref ra), .val (.int (2 : Int32)), .val (.double (own_T ((((0 : Int32) + own_sq k2) + own_sq k3) + own_sq k4))), .second, .val (.int (4 : Int32)), .val (.double (own_D k4)), .second] []))
  refine own_by (fun t k => XS.goto X0.here hx rfl (pc0 := 35) (pc' := 7) rfl (hb hby own_d2_35) (by decide) (by decide) k) ?_
  show own_Go p.tables e below K (s₁.setTop (mkF m 7 #[.val (.ref ra), .val (.int (2 : Int32)), .val (.double (own_T ((((0 : Int32) + own_sq k2) + own_sq k3) + own_sq k4))), .second, .val (.int (4 : Int32)), .val (.double (own_D k4)), .second] []))
  refine own_by (fun t k => XS.iload X0.here hx rfl (hb hby own_d2_7) rfl k) ?_
  show own_Go p.tables e below K (s₁.setTop (mkF m 9 #[.val (.ref ra), .val (.int (2 : Int32)), .val (.double (own_T ((((0 : Int32) + own_sq k2) + own_sq k3) + own_sq k4))), .second, .val (.int (4 : Int32)), .val (.double (own_D k4)), .second] [(.int (4 : Int32))]))
  refine own_by (fun t k => XS.aloadN X0.here hx rfl (hb hby own_d2_9) rfl rfl k) ?_
  show own_Go p.tables e below K (s₁.setTop (mkF m 10 #[.val (.ref ra), .val (.int (2 : Int32)), .val (.double (own_T ((((0 : Int32) + own_sq k2) + own_sq k3) + own_sq k4))), .second, .val (.int (4 : Int32)), .val (.double (own_D k4)), .second] [(.ref ra), (.int (4 : Int32))]))
  obtain ⟨cl10, Ar10, -, S10, M10, -, -⟩ := id VA
  refine own_by (fun t k => X0.arraylength hx (by rw [e0]; exact Ar10.1) (State.isArrayOf_alike hZ.alike Ar10.2.1) (g := (mkF m 10 #[.val (.ref ra), .val (.int (2 : Int32)), .val (.double (own_T ((((0 : Int32) + own_sq k2) + own_sq k3) + own_sq k4))), .second, .val (.int (4 : Int32)), .val (.double (own_D k4)), .second] [(.ref ra), (.int (4 : Int32))])) rfl rfl (hb hby own_d2_10) t k) ?_
  rw [len_of S10 M10]
  show own_Go p.tables e below K (s₁.setTop (mkF m 11 #[.val (.ref ra), .val (.int (2 : Int32)), .val (.double (own_T ((((0 : Int32) + own_sq k2) + own_sq k3) + own_sq k4))), .second, .val (.int (4 : Int32)), .val (.double (own_D k4)), .second] [(.int (4 : Int32)), (.int (4 : Int32))]))
  have hc11 : ¬ ((4 : Int32) < (4 : Int32)) := by decide
  refine own_by (fun t k => XS.icmpYes X0.here hx rfl (pc0 := 11) (pc' := 38) rfl (hb hby own_d2_11) rfl (flt hc11).2.1 (by decide) (by decide) k) ?_
  show own_Go p.tables e below K (s₁.setTop (mkF m 38 #[.val (.ref ra), .val (.int (2 : Int32)), .val (.double (own_T ((((0 : Int32) + own_sq k2) + own_sq k3) + own_sq k4))), .second, .val (.int (4 : Int32)), .val (.double (own_D k4)), .second] []))
  refine own_by (fun t k => XS.dloadN X0.here hx rfl (hb hby own_d2_38) rfl k) ?_
  show own_Go p.tables e below K (s₁.setTop (mkF m 39 #[.val (.ref ra), .val (.int (2 : Int32)), .val (.double (own_T ((((0 : Int32) + own_sq k2) + own_sq k3) + own_sq k4))), .second, .val (.int (4 : Int32)), .val (.double (own_D k4)), .second] [(.double (own_T ((((0 : Int32) + own_sq k2) + own_sq k3) + own_sq k4)))]))
  exact own_retD X0 hx hret (hb hby own_d2_39) (hK (some (.double (own_T ((((0 : Int32) + own_sq k2) + own_sq k3) + own_sq k4)))) X0 (fun h => by rw [hret] at h; cases h) ⟨rfl, N0, e0⟩ (by decide) (by decide))
theorem own_efsd3 (m : MethodId) (ra : Addr) : entryFrame m #[(.ref ra), (.int (3 : Int32))] 7 = mkF m 0 #[.val (.ref ra), .val (.int (3 : Int32)), .unset, .unset, .unset, .unset, .unset] [] := by first | (simp [entryFrame, mkF, argsToLocals, Value.category]; done) | rfl
def own_Qsd3 (Z : State) (ra : Addr) (ka : ClassId) (k1 : Int32) (k2 : Int32) (k3 : Int32) (k4 : Int32) (h0 : Heap) (n0 : Nat) (v : Option Value) (h : Heap) (L : List Loc) : Prop := v = some (.double (own_T (((0 : Int32) + own_sq k3) + own_sq k4))) ∧ Fr n0 L ∧ h = h0
set_option maxRecDepth 65536 in
set_option maxHeartbeats 40000000 in
theorem own_rmsd3 (l : Launch) (Z : State) (aw : Array Value) (hw : ∀ d ∈ tables_1, d.before aw Z = true) (ws : List Jvm.Cond) (ra : Addr) (ka : ClassId) (k1 : Int32) (k2 : Int32) (k3 : Int32) (k4 : Int32) (h0 : Heap) (n0 : Nat) (Z0 : n0 ≤ h0.size) (VA : Arv Z h0 ra ka .double (4 : Int32) [(.double (own_X k1)), (.double (own_X k2)), (.double (own_X k3)), (.double (own_X k4))] (.double (FP.l2d 0))) (hk1 : own_is k1 8) (hk2 : own_is k2 8) (hk3 : own_is k3 8) (hk4 : own_is k4 8) :
    MetFree l (⟨"com/example/manyfront/manyfront/problems/Dtlz", "sphereDistance", "([DI)D"⟩ : MethodName) (head1 (Jvm.Cond.code (⟨"com/example/manyfront/manyfront/problems/Dtlz", "sphereDistance", "([DI)D"⟩ : MethodName) prog_50_method_5_code 7 (some .double) :: ws) ({ frames := 0, cells := 0, slots := 0, locals := 0 } : Room)) (fun a U => a = #[(.ref ra), (.int (3 : Int32))] ∧ Z.Warmed39 U.vm ∧ U.heap = h0) (fun _ _ _ _ _ => True) (fun _ U o U' => ∃ v L, o = .returned v ∧ own_Qsd3 Z ra ka k1 k2 k3 k4 h0 n0 v U'.heap L ∧ FrameEnd U o U' L ({ frames := 0, cells := 0, slots := 0, locals := 0 } : Room).cells ({ frames := 0, cells := 0, slots := 0, locals := 0 } : Room).slots) := by
  refine own_met (Q := own_Qsd3 Z ra ka k1 k2 k3 k4 h0 n0) (plainFor_of_name own_pn2) ?_
  intro p e s m below meth c s₁ K hx hby hml hown hnm hret hZ X0 e0 hK
  have hown : s.vm.findClass "com/example/manyfront/manyfront/problems/Dtlz" = some m.cls := hown
  have N0 := Fr.nil n0
  refine own_by (fun t k => castTop (own_efsd3 m ra) k) ?_
  show own_Go p.tables e below K (s₁.setTop (mkF m 0 #[.val (.ref ra), .val (.int (3 : Int32)), .unset, .unset, .unset, .unset, .unset] []))
  refine own_by (fun t k => XS.dconst0 X0.here hx rfl (hb hby own_d2_0) own_T0 k) ?_
  show own_Go p.tables e below K (s₁.setTop (mkF m 1 #[.val (.ref ra), .val (.int (3 : Int32)), .unset, .unset, .unset, .unset, .unset] [(.double (own_T (0 : Int32)))]))
  refine own_by (fun t k => XS.dstoreN X0.here hx rfl (hb hby own_d2_1) rfl (l' := #[.val (.ref ra), .val (.int (3 : Int32)), .val (.double (own_T (0 : Int32))), .second, .unset, .unset, .unset]) rfl k) ?_
  show own_Go p.tables e below K (s₁.setTop (mkF m 2 #[.val (.ref ra), .val (.int (3 : Int32)), .val (.double (own_T (0 : Int32))), .second, .unset, .unset, .unset] []))
  refine own_by (fun t k => XS.iloadN X0.here hx rfl (hb hby own_d2_2) rfl k) ?_
  show own_Go p.tables e below K (s₁.setTop (mkF m 3 #[.val (.ref ra), .val (.int (3 : Int32)), .val (.double (own_T (0 : Int32))), .second, .unset, .unset, .unset] [(.int (3 : Int32))]))
  refine own_by (fun t k => XS.iconst X0.here hx rfl (hb hby own_d2_3) k) ?_
  show own_Go p.tables e below K (s₁.setTop (mkF m 4 #[.val (.ref ra), .val (.int (3 : Int32)), .val (.double (own_T (0 : Int32))), .second, .unset, .unset, .unset] [(.int (1 : Int32)), (.int (3 : Int32))]))
  refine own_by (fun t k => XS.isub X0.here hx rfl (hb hby own_d2_4) rfl k) ?_
  show own_Go p.tables e below K (s₁.setTop (mkF m 5 #[.val (.ref ra), .val (.int (3 : Int32)), .val (.double (own_T (0 : Int32))), .second, .unset, .unset, .unset] [(.int (2 : Int32))]))
  refine own_by (fun t k => XS.istore X0.here hx rfl (hb hby own_d2_5) rfl (l' := #[.val (.ref ra), .val (.int (3 : Int32)), .val (.double (own_T (0 : Int32))), .second, .val (.int (2 : Int32)), .unset, .unset]) rfl k) ?_
  show own_Go p.tables e below K (s₁.setTop (mkF m 7 #[.val (.ref ra), .val (.int (3 : Int32)), .val (.double (own_T (0 : Int32))), .second, .val (.int (2 : Int32)), .unset, .unset] []))
  refine own_by (fun t k => XS.iload X0.here hx rfl (hb hby own_d2_7) rfl k) ?_
  show own_Go p.tables e below K (s₁.setTop (mkF m 9 #[.val (.ref ra), .val (.int (3 : Int32)), .val (.double (own_T (0 : Int32))), .second, .val (.int (2 : Int32)), .unset, .unset] [(.int (2 : Int32))]))
  refine own_by (fun t k => XS.aloadN X0.here hx rfl (hb hby own_d2_9) rfl rfl k) ?_
  show own_Go p.tables e below K (s₁.setTop (mkF m 10 #[.val (.ref ra), .val (.int (3 : Int32)), .val (.double (own_T (0 : Int32))), .second, .val (.int (2 : Int32)), .unset, .unset] [(.ref ra), (.int (2 : Int32))]))
  obtain ⟨cl11, Ar11, -, S11, M11, -, -⟩ := id VA
  refine own_by (fun t k => X0.arraylength hx (by rw [e0]; exact Ar11.1) (State.isArrayOf_alike hZ.alike Ar11.2.1) (g := (mkF m 10 #[.val (.ref ra), .val (.int (3 : Int32)), .val (.double (own_T (0 : Int32))), .second, .val (.int (2 : Int32)), .unset, .unset] [(.ref ra), (.int (2 : Int32))])) rfl rfl (hb hby own_d2_10) t k) ?_
  rw [len_of S11 M11]
  show own_Go p.tables e below K (s₁.setTop (mkF m 11 #[.val (.ref ra), .val (.int (3 : Int32)), .val (.double (own_T (0 : Int32))), .second, .val (.int (2 : Int32)), .unset, .unset] [(.int (4 : Int32)), (.int (2 : Int32))]))
  have hc11 : (2 : Int32) < (4 : Int32) := by decide
  refine own_by (fun t k => XS.icmpNo X0.here hx rfl (hb hby own_d2_11) rfl (tlt hc11).2.1 k) ?_
  show own_Go p.tables e below K (s₁.setTop (mkF m 14 #[.val (.ref ra), .val (.int (3 : Int32)), .val (.double (own_T (0 : Int32))), .second, .val (.int (2 : Int32)), .unset, .unset] []))
  refine own_by (fun t k => XS.aloadN X0.here hx rfl (hb hby own_d2_14) rfl rfl k) ?_
  show own_Go p.tables e below K (s₁.setTop (mkF m 15 #[.val (.ref ra), .val (.int (3 : Int32)), .val (.double (own_T (0 : Int32))), .second, .val (.int (2 : Int32)), .unset, .unset] [(.ref ra)]))
  refine own_by (fun t k => XS.iload X0.here hx rfl (hb hby own_d2_15) rfl k) ?_
  show own_Go p.tables e below K (s₁.setTop (mkF m 17 #[.val (.ref ra), .val (.int (3 : Int32)), .val (.double (own_T (0 : Int32))), .second, .val (.int (2 : Int32)), .unset, .unset] [(.int (2 : Int32)), (.ref ra)]))
  obtain ⟨cl12, Ar12, -, S12, M12, H12, -⟩ := id VA
  refine own_by (fun t k => X0.daload hx (j := (2 : Int32)) (v := (.double (own_X k3))) (by rw [e0]; exact Ar12.1) (State.isArrayOf_alike hZ.alike Ar12.2.1) Ar12.2.2 (inb_of S12 ⟨by decide, by decide⟩) (H12 2 (by rw [S12]; decide)) (g := (mkF m 17 #[.val (.ref ra), .val (.int (3 : Int32)), .val (.double (own_T (0 : Int32))), .second, .val (.int (2 : Int32)), .unset, .unset] [(.int (2 : Int32)), (.ref ra)])) rfl rfl (hb hby own_d2_17) t k) ?_
  show own_Go p.tables e below K (s₁.setTop (mkF m 18 #[.val (.ref ra), .val (.int (3 : Int32)), .val (.double (own_T (0 : Int32))), .second, .val (.int (2 : Int32)), .unset, .unset] [(.double (own_X k3))]))
  refine own_by (fun t k => X0.ldc2DoubleC hx hown (mvT hZ (hw _ (List.mem_of_getElem? (i := 12) rfl))) (g := (mkF m 18 #[.val (.ref ra), .val (.int (3 : Int32)), .val (.double (own_T (0 : Int32))), .second, .val (.int (2 : Int32)), .unset, .unset] [(.double (own_X k3))])) rfl (hb hby own_d2_18) _ k) ?_
  show own_Go p.tables e below K (s₁.setTop (mkF m 21 #[.val (.ref ra), .val (.int (3 : Int32)), .val (.double (own_T (0 : Int32))), .second, .val (.int (2 : Int32)), .unset, .unset] [(.double (4602678819172646912 : UInt64)), (.double (own_X k3))]))
  refine own_by (fun t k => XS.dsubS X0.here hx rfl (hb hby own_d2_21) rfl (own_fD hk3) rfl k) ?_
  show own_Go p.tables e below K (s₁.setTop (mkF m 22 #[.val (.ref ra), .val (.int (3 : Int32)), .val (.double (own_T (0 : Int32))), .second, .val (.int (2 : Int32)), .unset, .unset] [(.double (own_D k3))]))
  refine own_by (fun t k => XS.dstore X0.here hx rfl (hb hby own_d2_22) rfl (l' := #[.val (.ref ra), .val (.int (3 : Int32)), .val (.double (own_T (0 : Int32))), .second, .val (.int (2 : Int32)), .val (.double (own_D k3)), .second]) rfl k) ?_
  show own_Go p.tables e below K (s₁.setTop (mkF m 24 #[.val (.ref ra), .val (.int (3 : Int32)), .val (.double (own_T (0 : Int32))), .second, .val (.int (2 : Int32)), .val (.double (own_D k3)), .second] []))
  refine own_by (fun t k => XS.dloadN X0.here hx rfl (hb hby own_d2_24) rfl k) ?_
  show own_Go p.tables e below K (s₁.setTop (mkF m 25 #[.val (.ref ra), .val (.int (3 : Int32)), .val (.double (own_T (0 : Int32))), .second, .val (.int (2 : Int32)), .val (.double (own_D k3)), .second] [(.double (own_T (0 : Int32)))]))
  refine own_by (fun t k => XS.dload X0.here hx rfl (hb hby own_d2_25) rfl k) ?_
  show own_Go p.tables e below K (s₁.setTop (mkF m 27 #[.val (.ref ra), .val (.int (3 : Int32)), .val (.double (own_T (0 : Int32))), .second, .val (.int (2 : Int32)), .val (.double (own_D k3)), .second] [(.double (own_D k3)), (.double (own_T (0 : Int32)))]))
  refine own_by (fun t k => XS.dload X0.here hx rfl (hb hby own_d2_27) rfl k) ?_
  show own_Go p.tables e below K (s₁.setTop (mkF m 29 #[.val (.ref ra), .val (.int (3 : Int32)), .val (.double (own_T (0 : Int32))), .second, .val (.int (2 : Int32)), .val (.double (own_D k3)), .second] [(.double (own_D k3)), (.double (own_D k3)), (.double (own_T (0 : Int32)))]))
  refine own_by (fun t k => XS.dmulS X0.here hx rfl (hb hby own_d2_29) rfl (by rw [(own_fM hk3).1]; exact own_nT (own_up (own_fM hk3).2 (by decide))) (own_fM hk3).1 k) ?_
  show own_Go p.tables e below K (s₁.setTop (mkF m 30 #[.val (.ref ra), .val (.int (3 : Int32)), .val (.double (own_T (0 : Int32))), .second, .val (.int (2 : Int32)), .val (.double (own_D k3)), .second] [(.double (own_T (own_sq k3))), (.double (own_T (0 : Int32)))]))
  have hA13 := own_fA (own_up (⟨0, by decide, rfl⟩ : own_is 0 0) (by decide)) (own_fM hk3).2
  have hI13 := own_is_add (⟨0, by decide, rfl⟩ : own_is 0 0) (own_fM hk3).2
  refine own_by (fun t k => XS.daddS X0.here hx rfl (hb hby own_d2_30) rfl (by rw [hA13]; exact own_nT (own_up hI13 (by decide))) hA13 k) ?_
  show own_Go p.tables e below K (s₁.setTop (mkF m 31 #[.val (.ref ra), .val (.int (3 : Int32)), .val (.double (own_T (0 : Int32))), .second, .val (.int (2 : Int32)), .val (.double (own_D k3)), .second] [(.double (own_T ((0 : Int32) + own_sq k3)))]))
  refine own_by (fun t k => XS.dstoreN X0.here hx rfl (hb hby own_d2_31) rfl (l' := #[.val (.ref ra), .val (.int (3 : Int32)), .val (.double (own_T ((0 : Int32) + own_sq k3))), .second, .val (.int (2 : Int32)), .val (.double (own_D k3)), .second]) rfl k) ?_
  show own_Go p.tables e below K (s₁.setTop (mkF m 32 #[.val (.ref ra), .val (.int (3 : Int32)), .val (.double (own_T ((0 : Int32) + own_sq k3))), .second, .val (.int (2 : Int32)), .val (.double (own_D k3)), .second] []))
  refine own_by (fun t k => XS.iinc X0.here hx rfl (hb hby own_d2_32) rfl (l' := #[.val (.ref ra), .val (.int (3 : Int32)), .val (.double (own_T ((0 : Int32) + own_sq k3))), .second, .val (.int (3 : Int32)), .val (.double (own_D k3)), .second]) rfl k) ?_
  show own_Go p.tables e below K (s₁.setTop (mkF m 35 #[.val (.ref ra), .val (.int (3 : Int32)), .val (.double (own_T ((0 : Int32) + own_sq k3))), .second, .val (.int (3 : Int32)), .val (.double (own_D k3)), .second] []))
  refine own_by (fun t k => XS.goto X0.here hx rfl (pc0 := 35) (pc' := 7) rfl (hb hby own_d2_35) (by decide) (by decide) k) ?_
  show own_Go p.tables e below K (s₁.setTop (mkF m 7 #[.val (.ref ra), .val (.int (3 : Int32)), .val (.double (own_T ((0 : Int32) + own_sq k3))), .second, .val (.int (3 : Int32)), .val (.double (own_D k3)), .second] []))
  refine own_by (fun t k => XS.iload X0.here hx rfl (hb hby own_d2_7) rfl k) ?_
  show own_Go p.tables e below K (s₁.setTop (mkF m 9 #[.val (.ref ra), .val (.int (3 : Int32)), .val (.double (own_T ((0 : Int32) + own_sq k3))), .second, .val (.int (3 : Int32)), .val (.double (own_D k3)), .second] [(.int (3 : Int32))]))
  refine own_by (fun t k => XS.aloadN X0.here hx rfl (hb hby own_d2_9) rfl rfl k) ?_
  show own_Go p.tables e below K (s₁.setTop (mkF m 10 #[.val (.ref ra), .val (.int (3 : Int32)), .val (.double (own_T ((0 : Int32) + own_sq k3))), .second, .val (.int (3 : Int32)), .val (.double (own_D k3)), .second] [(.ref ra), (.int (3 : Int32))]))
  obtain ⟨cl14, Ar14, -, S14, M14, -, -⟩ := id VA
  refine own_by (fun t k => X0.arraylength hx (by rw [e0]; exact Ar14.1) (State.isArrayOf_alike hZ.alike Ar14.2.1) (g := (mkF m 10 #[.val (.ref ra), .val (.int (3 : Int32)), .val (.double (own_T ((0 : Int32) + own_sq k3))), .second, .val (.int (3 : Int32)), .val (.double (own_D k3)), .second] [(.ref ra), (.int (3 : Int32))])) rfl rfl (hb hby own_d2_10) t k) ?_
  rw [len_of S14 M14]
  show own_Go p.tables e below K (s₁.setTop (mkF m 11 #[.val (.ref ra), .val (.int (3 : Int32)), .val (.double (own_T ((0 : Int32) + own_sq k3))), .second, .val (.int (3 : Int32)), .val (.double (own_D k3)), .second] [(.int (4 : Int32)), (.int (3 : Int32))]))
  have hc11 : (3 : Int32) < (4 : Int32) := by decide
  refine own_by (fun t k => XS.icmpNo X0.here hx rfl (hb hby own_d2_11) rfl (tlt hc11).2.1 k) ?_
  show own_Go p.tables e below K (s₁.setTop (mkF m 14 #[.val (.ref ra), .val (.int (3 : Int32)), .val (.double (own_T ((0 : Int32) + own_sq k3))), .second, .val (.int (3 : Int32)), .val (.double (own_D k3)), .second] []))
  refine own_by (fun t k => XS.aloadN X0.here hx rfl (hb hby own_d2_14) rfl rfl k) ?_
  show own_Go p.tables e below K (s₁.setTop (mkF m 15 #[.val (.ref ra), .val (.int (3 : Int32)), .val (.double (own_T ((0 : Int32) + own_sq k3))), .second, .val (.int (3 : Int32)), .val (.double (own_D k3)), .second] [(.ref ra)]))
  refine own_by (fun t k => XS.iload X0.here hx rfl (hb hby own_d2_15) rfl k) ?_
  show own_Go p.tables e below K (s₁.setTop (mkF m 17 #[.val (.ref ra), .val (.int (3 : Int32)), .val (.double (own_T ((0 : Int32) + own_sq k3))), .second, .val (.int (3 : Int32)), .val (.double (own_D k3)), .second] [(.int (3 : Int32)), (.ref ra)]))
  obtain ⟨cl15, Ar15, -, S15, M15, H15, -⟩ := id VA
  refine own_by (fun t k => X0.daload hx (j := (3 : Int32)) (v := (.double (own_X k4))) (by rw [e0]; exact Ar15.1) (State.isArrayOf_alike hZ.alike Ar15.2.1) Ar15.2.2 (inb_of S15 ⟨by decide, by decide⟩) (H15 3 (by rw [S15]; decide)) (g := (mkF m 17 #[.val (.ref ra), .val (.int (3 : Int32)), .val (.double (own_T ((0 : Int32) + own_sq k3))), .second, .val (.int (3 : Int32)), .val (.double (own_D k3)), .second] [(.int (3 : Int32)), (.ref ra)])) rfl rfl (hb hby own_d2_17) t k) ?_
  show own_Go p.tables e below K (s₁.setTop (mkF m 18 #[.val (.ref ra), .val (.int (3 : Int32)), .val (.double (own_T ((0 : Int32) + own_sq k3))), .second, .val (.int (3 : Int32)), .val (.double (own_D k3)), .second] [(.double (own_X k4))]))
  refine own_by (fun t k => X0.ldc2DoubleC hx hown (mvT hZ (hw _ (List.mem_of_getElem? (i := 12) rfl))) (g := (mkF m 18 #[.val (.ref ra), .val (.int (3 : Int32)), .val (.double (own_T ((0 : Int32) + own_sq k3))), .second, .val (.int (3 : Int32)), .val (.double (own_D k3)), .second] [(.double (own_X k4))])) rfl (hb hby own_d2_18) _ k) ?_
  show own_Go p.tables e below K (s₁.setTop (mkF m 21 #[.val (.ref ra), .val (.int (3 : Int32)), .val (.double (own_T ((0 : Int32) + own_sq k3))), .second, .val (.int (3 : Int32)), .val (.double (own_D k3)), .second] [(.double (4602678819172646912 : UInt64)), (.double (own_X k4))]))
  refine own_by (fun t k => XS.dsubS X0.here hx rfl (hb hby own_d2_21) rfl (own_fD hk4) rfl k) ?_
  show own_Go p.tables e below K (s₁.setTop (mkF m 22 #[.val (.ref ra), .val (.int (3 : Int32)), .val (.double (own_T ((0 : Int32) + own_sq k3))), .second, .val (.int (3 : Int32)), .val (.double (own_D k3)), .second] [(.double (own_D k4))]))
  refine own_by (fun t k => XS.dstore X0.here hx rfl (hb hby own_d2_22) rfl (l' := #[.val (.ref ra), .val (.int (3 : Int32)), .val (.double (own_T ((0 : Int32) + own_sq k3))), .second, .val (.int (3 : Int32)), .val (.double (own_D k4)), .second]) rfl k) ?_
  show own_Go p.tables e below K (s₁.setTop (mkF m 24 #[.val (.ref ra), .val (.int (3 : Int32)), .val (.double (own_T ((0 : Int32) + own_sq k3))), .second, .val (.int (3 : Int32)), .val (.double (own_D k4)), .second] []))
  refine own_by (fun t k => XS.dloadN X0.here hx rfl (hb hby own_d2_24) rfl k) ?_
  show own_Go p.tables e below K (s₁.setTop (mkF m 25 #[.val (.ref ra), .val (.int (3 : Int32)), .val (.double (own_T ((0 : Int32) + own_sq k3))), .second, .val (.int (3 : Int32)), .val (.double (own_D k4)), .second] [(.double (own_T ((0 : Int32) + own_sq k3)))]))
  refine own_by (fun t k => XS.dload X0.here hx rfl (hb hby own_d2_25) rfl k) ?_
  show own_Go p.tables e below K (s₁.setTop (mkF m 27 #[.val (.ref ra), .val (.int (3 : Int32)), .val (.double (own_T ((0 : Int32) + own_sq k3))), .second, .val (.int (3 : Int32)), .val (.double (own_D k4)), .second] [(.double (own_D k4)), (.double (own_T ((0 : Int32) + own_sq k3)))]))
  refine own_by (fun t k => XS.dload X0.here hx rfl (hb hby own_d2_27) rfl k) ?_
  show own_Go p.tables e below K (s₁.setTop (mkF m 29 #[.val (.ref ra), .val (.int (3 : Int32)), .val (.double (own_T ((0 : Int32) + own_sq k3))), .second, .val (.int (3 : Int32)), .val (.double (own_D k4)), .second] [(.double (own_D k4)), (.double (own_D k4)), (.double (own_T ((0 : Int32) + own_sq k3)))]))
  refine own_by (fun t k => XS.dmulS X0.here hx rfl (hb hby own_d2_29) rfl (by rw [(own_fM hk4).1]; exact own_nT (own_up (own_fM hk4).2 (by decide))) (own_fM hk4).1 k) ?_
  show own_Go p.tables e below K (s₁.setTop (mkF m 30 #[.val (.ref ra), .val (.int (3 : Int32)), .val (.double (own_T ((0 : Int32) + own_sq k3))), .second, .val (.int (3 : Int32)), .val (.double (own_D k4)), .second] [(.double (own_T (own_sq k4))), (.double (own_T ((0 : Int32) + own_sq k3)))]))
  have hA16 := own_fA (own_up hI13 (by decide)) (own_fM hk4).2
  have hI16 := own_is_add hI13 (own_fM hk4).2
  refine own_by (fun t k => XS.daddS X0.here hx rfl (hb hby own_d2_30) rfl (by rw [hA16]; exact own_nT (own_up hI16 (by decide))) hA16 k) ?_
  show own_Go p.tables e below K (s₁.setTop (mkF m 31 #[.val (.ref ra), .val (.int (3 : Int32)), .val (.double (own_T ((0 : Int32) + own_sq k3))), .second, .val (.int (3 : Int32)), .val (.double (own_D k4)), .second] [(.double (own_T (((0 : Int32) + own_sq k3) + own_sq k4)))]))
  refine own_by (fun t k => XS.dstoreN X0.here hx rfl (hb hby own_d2_31) rfl (l' := #[.val (.ref ra), .val (.int (3 : Int32)), .val (.double (own_T (((0 : Int32) + own_sq k3) + own_sq k4))), .second, .val (.int (3 : Int32)), .val (.double (own_D k4)), .second]) rfl k) ?_
  show own_Go p.tables e below K (s₁.setTop (mkF m 32 #[.val (.ref ra), .val (.int (3 : Int32)), .val (.double (own_T (((0 : Int32) + own_sq k3) + own_sq k4))), .second, .val (.int (3 : Int32)), .val (.double (own_D k4)), .second] []))
  refine own_by (fun t k => XS.iinc X0.here hx rfl (hb hby own_d2_32) rfl (l' := #[.val (.ref ra), .val (.int (3 : Int32)), .val (.double (own_T (((0 : Int32) + own_sq k3) + own_sq k4))), .second, .val (.int (4 : Int32)), .val (.double (own_D k4)), .second]) rfl k) ?_
  show own_Go p.tables e below K (s₁.setTop (mkF m 35 #[.val (.ref ra), .val (.int (3 : Int32)), .val (.double (own_T (((0 : Int32) + own_sq k3) + own_sq k4))), .second, .val (.int (4 : Int32)), .val (.double (own_D k4)), .second] []))
  refine own_by (fun t k => XS.goto X0.here hx rfl (pc0 := 35) (pc' := 7) rfl (hb hby own_d2_35) (by decide) (by decide) k) ?_
  show own_Go p.tables e below K (s₁.setTop (mkF m 7 #[.val (.ref ra), .val (.int (3 : Int32)), .val (.double (own_T (((0 : Int32) + own_sq k3) + own_sq k4))), .second, .val (.int (4 : Int32)), .val (.double (own_D k4)), .second] []))
  refine own_by (fun t k => XS.iload X0.here hx rfl (hb hby own_d2_7) rfl k) ?_
  show own_Go p.tables e below K (s₁.setTop (mkF m 9 #[.val (.ref ra), .val (.int (3 : Int32)), .val (.double (own_T (((0 : Int32) + own_sq k3) + own_sq k4))), .second, .val (.int (4 : Int32)), .val (.double (own_D k4)), .second] [(.int (4 : Int32))]))
  refine own_by (fun t k => XS.aloadN X0.here hx rfl (hb hby own_d2_9) rfl rfl k) ?_
  show own_Go p.tables e below K (s₁.setTop (mkF m 10 #[.val (.ref ra), .val (.int (3 : Int32)), .val (.double (own_T (((0 : Int32) + own_sq k3) + own_sq k4))), .second, .val (.int (4 : Int32)), .val (.double (own_D k4)), .second] [(.ref ra), (.int (4 : Int32))]))
  obtain ⟨cl17, Ar17, -, S17, M17, -, -⟩ := id VA
  refine own_by (fun t k => X0.arraylength hx (by rw [e0]; exact Ar17.1) (State.isArrayOf_alike hZ.alike Ar17.2.1) (g := (mkF m 10 #[.val (.ref ra), .val (.int (3 : Int32)), .val (.double (own_T (((0 : Int32) + own_sq k3) + own_sq k4))), .second, .val (.int (4 : Int32)), .val (.double (own_D k4)), .second] [(.ref ra), (.int (4 : Int32))])) rfl rfl (hb hby own_d2_10) t k) ?_
  rw [len_of S17 M17]
  show own_Go p.tables e below K (s₁.setTop (mkF m 11 #[.val (.ref ra), .val (.int (3 : Int32)), .val (.double (own_T (((0 : Int32) + own_sq k3) + own_sq k4))), .second, .val (.int (4 : Int32)), .val (.double (own_D k4)), .second] [(.int (4 : Int32)), (.int (4 : Int32))]))
  have hc11 : ¬ ((4 : Int32) < (4 : Int32)) := by decide
  refine own_by (fun t k => XS.icmpYes X0.here hx rfl (pc0 := 11) (pc' := 38) rfl (hb hby own_d2_11) rfl (flt hc11).2.1 (by decide) (by decide) k) ?_
  show own_Go p.tables e below K (s₁.setTop (mkF m 38 #[.val (.ref ra), .val (.int (3 : Int32)), .val (.double (own_T (((0 : Int32) + own_sq k3) + own_sq k4))), .second, .val (.int (4 : Int32)), .val (.double (own_D k4)), .second] []))
  refine own_by (fun t k => XS.dloadN X0.here hx rfl (hb hby own_d2_38) rfl k) ?_
  show own_Go p.tables e below K (s₁.setTop (mkF m 39 #[.val (.ref ra), .val (.int (3 : Int32)), .val (.double (own_T (((0 : Int32) + own_sq k3) + own_sq k4))), .second, .val (.int (4 : Int32)), .val (.double (own_D k4)), .second] [(.double (own_T (((0 : Int32) + own_sq k3) + own_sq k4)))]))
  exact own_retD X0 hx hret (hb hby own_d2_39) (hK (some (.double (own_T (((0 : Int32) + own_sq k3) + own_sq k4)))) X0 (fun h => by rw [hret] at h; cases h) ⟨rfl, N0, e0⟩ (by decide) (by decide))
theorem own_efsd4 (m : MethodId) (ra : Addr) : entryFrame m #[(.ref ra), (.int (4 : Int32))] 7 = mkF m 0 #[.val (.ref ra), .val (.int (4 : Int32)), .unset, .unset, .unset, .unset, .unset] [] := by first | (simp [entryFrame, mkF, argsToLocals, Value.category]; done) | rfl
def own_Qsd4 (Z : State) (ra : Addr) (ka : ClassId) (k1 : Int32) (k2 : Int32) (k3 : Int32) (k4 : Int32) (h0 : Heap) (n0 : Nat) (v : Option Value) (h : Heap) (L : List Loc) : Prop := v = some (.double (own_T ((0 : Int32) + own_sq k4))) ∧ Fr n0 L ∧ h = h0
set_option maxRecDepth 65536 in
set_option maxHeartbeats 40000000 in
theorem own_rmsd4 (l : Launch) (Z : State) (aw : Array Value) (hw : ∀ d ∈ tables_1, d.before aw Z = true) (ws : List Jvm.Cond) (ra : Addr) (ka : ClassId) (k1 : Int32) (k2 : Int32) (k3 : Int32) (k4 : Int32) (h0 : Heap) (n0 : Nat) (Z0 : n0 ≤ h0.size) (VA : Arv Z h0 ra ka .double (4 : Int32) [(.double (own_X k1)), (.double (own_X k2)), (.double (own_X k3)), (.double (own_X k4))] (.double (FP.l2d 0))) (hk1 : own_is k1 8) (hk2 : own_is k2 8) (hk3 : own_is k3 8) (hk4 : own_is k4 8) :
    MetFree l (⟨"com/example/manyfront/manyfront/problems/Dtlz", "sphereDistance", "([DI)D"⟩ : MethodName) (head1 (Jvm.Cond.code (⟨"com/example/manyfront/manyfront/problems/Dtlz", "sphereDistance", "([DI)D"⟩ : MethodName) prog_50_method_5_code 7 (some .double) :: ws) ({ frames := 0, cells := 0, slots := 0, locals := 0 } : Room)) (fun a U => a = #[(.ref ra), (.int (4 : Int32))] ∧ Z.Warmed39 U.vm ∧ U.heap = h0) (fun _ _ _ _ _ => True) (fun _ U o U' => ∃ v L, o = .returned v ∧ own_Qsd4 Z ra ka k1 k2 k3 k4 h0 n0 v U'.heap L ∧ FrameEnd U o U' L ({ frames := 0, cells := 0, slots := 0, locals := 0 } : Room).cells ({ frames := 0, cells := 0, slots := 0, locals := 0 } : Room).slots) := by
  refine own_met (Q := own_Qsd4 Z ra ka k1 k2 k3 k4 h0 n0) (plainFor_of_name own_pn2) ?_
  intro p e s m below meth c s₁ K hx hby hml hown hnm hret hZ X0 e0 hK
  have hown : s.vm.findClass "com/example/manyfront/manyfront/problems/Dtlz" = some m.cls := hown
  have N0 := Fr.nil n0
  refine own_by (fun t k => castTop (own_efsd4 m ra) k) ?_
  show own_Go p.tables e below K (s₁.setTop (mkF m 0 #[.val (.ref ra), .val (.int (4 : Int32)), .unset, .unset, .unset, .unset, .unset] []))
  refine own_by (fun t k => XS.dconst0 X0.here hx rfl (hb hby own_d2_0) own_T0 k) ?_
  show own_Go p.tables e below K (s₁.setTop (mkF m 1 #[.val (.ref ra), .val (.int (4 : Int32)), .unset, .unset, .unset, .unset, .unset] [(.double (own_T (0 : Int32)))]))
  refine own_by (fun t k => XS.dstoreN X0.here hx rfl (hb hby own_d2_1) rfl (l' := #[.val (.ref ra), .val (.int (4 : Int32)), .val (.double (own_T (0 : Int32))), .second, .unset, .unset, .unset]) rfl k) ?_
  show own_Go p.tables e below K (s₁.setTop (mkF m 2 #[.val (.ref ra), .val (.int (4 : Int32)), .val (.double (own_T (0 : Int32))), .second, .unset, .unset, .unset] []))
  refine own_by (fun t k => XS.iloadN X0.here hx rfl (hb hby own_d2_2) rfl k) ?_
  show own_Go p.tables e below K (s₁.setTop (mkF m 3 #[.val (.ref ra), .val (.int (4 : Int32)), .val (.double (own_T (0 : Int32))), .second, .unset, .unset, .unset] [(.int (4 : Int32))]))
  refine own_by (fun t k => XS.iconst X0.here hx rfl (hb hby own_d2_3) k) ?_
  show own_Go p.tables e below K (s₁.setTop (mkF m 4 #[.val (.ref ra), .val (.int (4 : Int32)), .val (.double (own_T (0 : Int32))), .second, .unset, .unset, .unset] [(.int (1 : Int32)), (.int (4 : Int32))]))
  refine own_by (fun t k => XS.isub X0.here hx rfl (hb hby own_d2_4) rfl k) ?_
  show own_Go p.tables e below K (s₁.setTop (mkF m 5 #[.val (.ref ra), .val (.int (4 : Int32)), .val (.double (own_T (0 : Int32))), .second, .unset, .unset, .unset] [(.int (3 : Int32))]))
  refine own_by (fun t k => XS.istore X0.here hx rfl (hb hby own_d2_5) rfl (l' := #[.val (.ref ra), .val (.int (4 : Int32)), .val (.double (own_T (0 : Int32))), .second, .val (.int (3 : Int32)), .unset, .unset]) rfl k) ?_
  show own_Go p.tables e below K (s₁.setTop (mkF m 7 #[.val (.ref ra), .val (.int (4 : Int32)), .val (.double (own_T (0 : Int32))), .second, .val (.int (3 : Int32)), .unset, .unset] []))
  refine own_by (fun t k => XS.iload X0.here hx rfl (hb hby own_d2_7) rfl k) ?_
  show own_Go p.tables e below K (s₁.setTop (mkF m 9 #[.val (.ref ra), .val (.int (4 : Int32)), .val (.double (own_T (0 : Int32))), .second, .val (.int (3 : Int32)), .unset, .unset] [(.int (3 : Int32))]))
  refine own_by (fun t k => XS.aloadN X0.here hx rfl (hb hby own_d2_9) rfl rfl k) ?_
  show own_Go p.tables e below K (s₁.setTop (mkF m 10 #[.val (.ref ra), .val (.int (4 : Int32)), .val (.double (own_T (0 : Int32))), .second, .val (.int (3 : Int32)), .unset, .unset] [(.ref ra), (.int (3 : Int32))]))
  obtain ⟨cl18, Ar18, -, S18, M18, -, -⟩ := id VA
  refine own_by (fun t k => X0.arraylength hx (by rw [e0]; exact Ar18.1) (State.isArrayOf_alike hZ.alike Ar18.2.1) (g := (mkF m 10 #[.val (.ref ra), .val (.int (4 : Int32)), .val (.double (own_T (0 : Int32))), .second, .val (.int (3 : Int32)), .unset, .unset] [(.ref ra), (.int (3 : Int32))])) rfl rfl (hb hby own_d2_10) t k) ?_
  rw [len_of S18 M18]
  show own_Go p.tables e below K (s₁.setTop (mkF m 11 #[.val (.ref ra), .val (.int (4 : Int32)), .val (.double (own_T (0 : Int32))), .second, .val (.int (3 : Int32)), .unset, .unset] [(.int (4 : Int32)), (.int (3 : Int32))]))
  have hc11 : (3 : Int32) < (4 : Int32) := by decide
  refine own_by (fun t k => XS.icmpNo X0.here hx rfl (hb hby own_d2_11) rfl (tlt hc11).2.1 k) ?_
  show own_Go p.tables e below K (s₁.setTop (mkF m 14 #[.val (.ref ra), .val (.int (4 : Int32)), .val (.double (own_T (0 : Int32))), .second, .val (.int (3 : Int32)), .unset, .unset] []))
  refine own_by (fun t k => XS.aloadN X0.here hx rfl (hb hby own_d2_14) rfl rfl k) ?_
  show own_Go p.tables e below K (s₁.setTop (mkF m 15 #[.val (.ref ra), .val (.int (4 : Int32)), .val (.double (own_T (0 : Int32))), .second, .val (.int (3 : Int32)), .unset, .unset] [(.ref ra)]))
  refine own_by (fun t k => XS.iload X0.here hx rfl (hb hby own_d2_15) rfl k) ?_
  show own_Go p.tables e below K (s₁.setTop (mkF m 17 #[.val (.ref ra), .val (.int (4 : Int32)), .val (.double (own_T (0 : Int32))), .second, .val (.int (3 : Int32)), .unset, .unset] [(.int (3 : Int32)), (.ref ra)]))
  obtain ⟨cl19, Ar19, -, S19, M19, H19, -⟩ := id VA
  refine own_by (fun t k => X0.daload hx (j := (3 : Int32)) (v := (.double (own_X k4))) (by rw [e0]; exact Ar19.1) (State.isArrayOf_alike hZ.alike Ar19.2.1) Ar19.2.2 (inb_of S19 ⟨by decide, by decide⟩) (H19 3 (by rw [S19]; decide)) (g := (mkF m 17 #[.val (.ref ra), .val (.int (4 : Int32)), .val (.double (own_T (0 : Int32))), .second, .val (.int (3 : Int32)), .unset, .unset] [(.int (3 : Int32)), (.ref ra)])) rfl rfl (hb hby own_d2_17) t k) ?_
  show own_Go p.tables e below K (s₁.setTop (mkF m 18 #[.val (.ref ra), .val (.int (4 : Int32)), .val (.double (own_T (0 : Int32))), .second, .val (.int (3 : Int32)), .unset, .unset] [(.double (own_X k4))]))
  refine own_by (fun t k => X0.ldc2DoubleC hx hown (mvT hZ (hw _ (List.mem_of_getElem? (i := 12) rfl))) (g := (mkF m 18 #[.val (.ref ra), .val (.int (4 : Int32)), .val (.double (own_T (0 : Int32))), .second, .val (.int (3 : Int32)), .unset, .unset] [(.double (own_X k4))])) rfl (hb hby own_d2_18) _ k) ?_
  show own_Go p.tables e below K (s₁.setTop (mkF m 21 #[.val (.ref ra), .val (.int (4 : Int32)), .val (.double (own_T (0 : Int32))), .second, .val (.int (3 : Int32)), .unset, .unset] [(.double (4602678819172646912 : UInt64)), (.double (own_X k4))]))
  refine own_by (fun t k => XS.dsubS X0.here hx rfl (hb hby own_d2_21) rfl (own_fD hk4) rfl k) ?_
  show own_Go p.tables e below K (s₁.setTop (mkF m 22 #[.val (.ref ra), .val (.int (4 : Int32)), .val (.double (own_T (0 : Int32))), .second, .val (.int (3 : Int32)), .unset, .unset] [(.double (own_D k4))]))
  refine own_by (fun t k => XS.dstore X0.here hx rfl (hb hby own_d2_22) rfl (l' := #[.val (.ref ra), .val (.int (4 : Int32)), .val (.double (own_T (0 : Int32))), .second, .val (.int (3 : Int32)), .val (.double (own_D k4)), .second]) rfl k) ?_
  show own_Go p.tables e below K (s₁.setTop (mkF m 24 #[.val (.ref ra), .val (.int (4 : Int32)), .val (.double (own_T (0 : Int32))), .second, .val (.int (3 : Int32)), .val (.double (own_D k4)), .second] []))
  refine own_by (fun t k => XS.dloadN X0.here hx rfl (hb hby own_d2_24) rfl k) ?_
  show own_Go p.tables e below K (s₁.setTop (mkF m 25 #[.val (.ref ra), .val (.int (4 : Int32)), .val (.double (own_T (0 : Int32))), .second, .val (.int (3 : Int32)), .val (.double (own_D k4)), .second] [(.double (own_T (0 : Int32)))]))
  refine own_by (fun t k => XS.dload X0.here hx rfl (hb hby own_d2_25) rfl k) ?_
  show own_Go p.tables e below K (s₁.setTop (mkF m 27 #[.val (.ref ra), .val (.int (4 : Int32)), .val (.double (own_T (0 : Int32))), .second, .val (.int (3 : Int32)), .val (.double (own_D k4)), .second] [(.double (own_D k4)), (.double (own_T (0 : Int32)))]))
  refine own_by (fun t k => XS.dload X0.here hx rfl (hb hby own_d2_27) rfl k) ?_
  show own_Go p.tables e below K (s₁.setTop (mkF m 29 #[.val (.ref ra), .val (.int (4 : Int32)), .val (.double (own_T (0 : Int32))), .second, .val (.int (3 : Int32)), .val (.double (own_D k4)), .second] [(.double (own_D k4)), (.double (own_D k4)), (.double (own_T (0 : Int32)))]))
  refine own_by (fun t k => XS.dmulS X0.here hx rfl (hb hby own_d2_29) rfl (by rw [(own_fM hk4).1]; exact own_nT (own_up (own_fM hk4).2 (by decide))) (own_fM hk4).1 k) ?_
  show own_Go p.tables e below K (s₁.setTop (mkF m 30 #[.val (.ref ra), .val (.int (4 : Int32)), .val (.double (own_T (0 : Int32))), .second, .val (.int (3 : Int32)), .val (.double (own_D k4)), .second] [(.double (own_T (own_sq k4))), (.double (own_T (0 : Int32)))]))
  have hA20 := own_fA (own_up (⟨0, by decide, rfl⟩ : own_is 0 0) (by decide)) (own_fM hk4).2
  have hI20 := own_is_add (⟨0, by decide, rfl⟩ : own_is 0 0) (own_fM hk4).2
  refine own_by (fun t k => XS.daddS X0.here hx rfl (hb hby own_d2_30) rfl (by rw [hA20]; exact own_nT (own_up hI20 (by decide))) hA20 k) ?_
  show own_Go p.tables e below K (s₁.setTop (mkF m 31 #[.val (.ref ra), .val (.int (4 : Int32)), .val (.double (own_T (0 : Int32))), .second, .val (.int (3 : Int32)), .val (.double (own_D k4)), .second] [(.double (own_T ((0 : Int32) + own_sq k4)))]))
  refine own_by (fun t k => XS.dstoreN X0.here hx rfl (hb hby own_d2_31) rfl (l' := #[.val (.ref ra), .val (.int (4 : Int32)), .val (.double (own_T ((0 : Int32) + own_sq k4))), .second, .val (.int (3 : Int32)), .val (.double (own_D k4)), .second]) rfl k) ?_
  show own_Go p.tables e below K (s₁.setTop (mkF m 32 #[.val (.ref ra), .val (.int (4 : Int32)), .val (.double (own_T ((0 : Int32) + own_sq k4))), .second, .val (.int (3 : Int32)), .val (.double (own_D k4)), .second] []))
  refine own_by (fun t k => XS.iinc X0.here hx rfl (hb hby own_d2_32) rfl (l' := #[.val (.ref ra), .val (.int (4 : Int32)), .val (.double (own_T ((0 : Int32) + own_sq k4))), .second, .val (.int (4 : Int32)), .val (.double (own_D k4)), .second]) rfl k) ?_
  show own_Go p.tables e below K (s₁.setTop (mkF m 35 #[.val (.ref ra), .val (.int (4 : Int32)), .val (.double (own_T ((0 : Int32) + own_sq k4))), .second, .val (.int (4 : Int32)), .val (.double (own_D k4)), .second] []))
  refine own_by (fun t k => XS.goto X0.here hx rfl (pc0 := 35) (pc' := 7) rfl (hb hby own_d2_35) (by decide) (by decide) k) ?_
  show own_Go p.tables e below K (s₁.setTop (mkF m 7 #[.val (.ref ra), .val (.int (4 : Int32)), .val (.double (own_T ((0 : Int32) + own_sq k4))), .second, .val (.int (4 : Int32)), .val (.double (own_D k4)), .second] []))
  refine own_by (fun t k => XS.iload X0.here hx rfl (hb hby own_d2_7) rfl k) ?_
  show own_Go p.tables e below K (s₁.setTop (mkF m 9 #[.val (.ref ra), .val (.int (4 : Int32)), .val (.double (own_T ((0 : Int32) + own_sq k4))), .second, .val (.int (4 : Int32)), .val (.double (own_D k4)), .second] [(.int (4 : Int32))]))
  refine own_by (fun t k => XS.aloadN X0.here hx rfl (hb hby own_d2_9) rfl rfl k) ?_
  show own_Go p.tables e below K (s₁.setTop (mkF m 10 #[.val (.ref ra), .val (.int (4 : Int32)), .val (.double (own_T ((0 : Int32) + own_sq k4))), .second, .val (.int (4 : Int32)), .val (.double (own_D k4)), .second] [(.ref ra), (.int (4 : Int32))]))
  obtain ⟨cl21, Ar21, -, S21, M21, -, -⟩ := id VA
  refine own_by (fun t k => X0.arraylength hx (by rw [e0]; exact Ar21.1) (State.isArrayOf_alike hZ.alike Ar21.2.1) (g := (mkF m 10 #[.val (.ref ra), .val (.int (4 : Int32)), .val (.double (own_T ((0 : Int32) + own_sq k4))), .second, .val (.int (4 : Int32)), .val (.double (own_D k4)), .second] [(.ref ra), (.int (4 : Int32))])) rfl rfl (hb hby own_d2_10) t k) ?_
  rw [len_of S21 M21]
  show own_Go p.tables e below K (s₁.setTop (mkF m 11 #[.val (.ref ra), .val (.int (4 : Int32)), .val (.double (own_T ((0 : Int32) + own_sq k4))), .second, .val (.int (4 : Int32)), .val (.double (own_D k4)), .second] [(.int (4 : Int32)), (.int (4 : Int32))]))
  have hc11 : ¬ ((4 : Int32) < (4 : Int32)) := by decide
  refine own_by (fun t k => XS.icmpYes X0.here hx rfl (pc0 := 11) (pc' := 38) rfl (hb hby own_d2_11) rfl (flt hc11).2.1 (by decide) (by decide) k) ?_
  show own_Go p.tables e below K (s₁.setTop (mkF m 38 #[.val (.ref ra), .val (.int (4 : Int32)), .val (.double (own_T ((0 : Int32) + own_sq k4))), .second, .val (.int (4 : Int32)), .val (.double (own_D k4)), .second] []))
  refine own_by (fun t k => XS.dloadN X0.here hx rfl (hb hby own_d2_38) rfl k) ?_
  show own_Go p.tables e below K (s₁.setTop (mkF m 39 #[.val (.ref ra), .val (.int (4 : Int32)), .val (.double (own_T ((0 : Int32) + own_sq k4))), .second, .val (.int (4 : Int32)), .val (.double (own_D k4)), .second] [(.double (own_T ((0 : Int32) + own_sq k4)))]))
  exact own_retD X0 hx hret (hb hby own_d2_39) (hK (some (.double (own_T ((0 : Int32) + own_sq k4)))) X0 (fun h => by rw [hret] at h; cases h) ⟨rfl, N0, e0⟩ (by decide) (by decide))
theorem own_pd0 : parseMethodDescriptor "(I)I" = some ⟨[.int], some .int⟩ := by decide +kernel
theorem own_pd1 : parseMethodDescriptor "([DI)D" = some ⟨[(.array .double), .int], some .double⟩ := by decide +kernel
theorem own_ef0 (m : MethodId) (q1 : Int32) (q2 : Int32) (q3 : Int32) (q4 : Int32) (q5 : Int32) : entryFrame m #[(.int q1), (.int q2), (.int q3), (.int q4), (.int q5)] maxLocals = mkF m 0 #[.val (.int q1), .val (.int q2), .val (.int q3), .val (.int q4), .val (.int q5), .unset, .unset, .unset, .unset, .unset, .unset, .unset, .unset, .unset, .unset, .unset] [] := by first | (simp [entryFrame, mkF, argsToLocals, Value.category, maxLocals]; done) | rfl
def own_Q0 (Z : State) (q1 : Int32) (q2 : Int32) (q3 : Int32) (q4 : Int32) (q5 : Int32) (h0 : Heap) (n0 : Nat) (v : Option Value) (h : Heap) (L : List Loc) : Prop := v = some (.int (1 : Int32)) ∧ Fr n0 L
set_option maxRecDepth 65536 in
set_option maxHeartbeats 40000000 in
theorem own_rm0 (l : Launch) (Z : State) (aw : Array Value) (hw : ∀ d ∈ tables_1, d.before aw Z = true) (ws : List Jvm.Cond) (q1 : Int32) (q2 : Int32) (q3 : Int32) (q4 : Int32) (q5 : Int32) (h0 : Heap) (n0 : Nat) (Z0 : n0 ≤ h0.size)  :
    MetFree l x (head1 (Jvm.Cond.code x code maxLocals ret :: ws) room_1) (fun a U => a = #[(.int q1), (.int q2), (.int q3), (.int q4), (.int q5)] ∧ Z.Warmed39 U.vm ∧ U.heap = h0) (fun _ _ _ _ _ => True) (fun _ U o U' => ∃ v L, o = .returned v ∧ own_Q0 Z q1 q2 q3 q4 q5 h0 n0 v U'.heap L ∧ FrameEnd U o U' L 1 4) := by
  refine own_met (Q := own_Q0 Z q1 q2 q3 q4 q5 h0 n0) (plainFor_of_name own_pn1) ?_
  intro p e s m below meth c s₁ K hx hby hml hown hnm hret hZ X0 e0 hK
  have hown : s.vm.findClass "com/example/manyfront/manyfront/problems/DtlzSphereDistancePinLaw" = some m.cls := hown
  have N0 := Fr.nil n0
  refine own_by (fun t k => castTop (own_ef0 m q1 q2 q3 q4 q5) k) ?_
  show own_Go p.tables e below K (s₁.setTop (mkF m 0 #[.val (.int q1), .val (.int q2), .val (.int q3), .val (.int q4), .val (.int q5), .unset, .unset, .unset, .unset, .unset, .unset, .unset, .unset, .unset, .unset, .unset] []))
  refine own_by (fun t k => XS.iconst X0.here hx rfl (hb hby at_0) k) ?_
  show own_Go p.tables e below K (s₁.setTop (mkF m 1 #[.val (.int q1), .val (.int q2), .val (.int q3), .val (.int q4), .val (.int q5), .unset, .unset, .unset, .unset, .unset, .unset, .unset, .unset, .unset, .unset, .unset] [(.int (2 : Int32))]))
  refine own_by (fun t k => XS.iloadN X0.here hx rfl (hb hby at_1) rfl k) ?_
  show own_Go p.tables e below K (s₁.setTop (mkF m 2 #[.val (.int q1), .val (.int q2), .val (.int q3), .val (.int q4), .val (.int q5), .unset, .unset, .unset, .unset, .unset, .unset, .unset, .unset, .unset, .unset, .unset] [(.int q1), (.int (2 : Int32))]))
  refine own_by (fun t k => X0.ldcInt hx hown (mvT hZ (hw _ (List.mem_of_getElem? (i := 0) rfl))) (g := (mkF m 2 #[.val (.int q1), .val (.int q2), .val (.int q3), .val (.int q4), .val (.int q5), .unset, .unset, .unset, .unset, .unset, .unset, .unset, .unset, .unset, .unset, .unset] [(.int q1), (.int (2 : Int32))])) rfl (hb hby at_2) _ k) ?_
  show own_Go p.tables e below K (s₁.setTop (mkF m 4 #[.val (.int q1), .val (.int q2), .val (.int q3), .val (.int q4), .val (.int q5), .unset, .unset, .unset, .unset, .unset, .unset, .unset, .unset, .unset, .unset, .unset] [(.int (2147483647 : Int32)), (.int q1), (.int (2 : Int32))]))
  refine own_by (fun t k => XS.iand X0.here hx rfl (hb hby at_4) rfl k) ?_
  show own_Go p.tables e below K (s₁.setTop (mkF m 5 #[.val (.int q1), .val (.int q2), .val (.int q3), .val (.int q4), .val (.int q5), .unset, .unset, .unset, .unset, .unset, .unset, .unset, .unset, .unset, .unset, .unset] [(.int (q1 &&& (2147483647 : Int32))), (.int (2 : Int32))]))
  refine own_by (fun t k => XS.iconst X0.here hx rfl (hb hby at_5) k) ?_
  show own_Go p.tables e below K (s₁.setTop (mkF m 6 #[.val (.int q1), .val (.int q2), .val (.int q3), .val (.int q4), .val (.int q5), .unset, .unset, .unset, .unset, .unset, .unset, .unset, .unset, .unset, .unset, .unset] [(.int (3 : Int32)), (.int (q1 &&& (2147483647 : Int32))), (.int (2 : Int32))]))
  refine own_by (fun t k => iremM X0 hx rfl (hb hby at_6) rfl (by decide) k) ?_
  show own_Go p.tables e below K (s₁.setTop (mkF m 7 #[.val (.int q1), .val (.int q2), .val (.int q3), .val (.int q4), .val (.int q5), .unset, .unset, .unset, .unset, .unset, .unset, .unset, .unset, .unset, .unset, .unset] [(.int ((q1 &&& (2147483647 : Int32)) % (3 : Int32))), (.int (2 : Int32))]))
  refine own_by (fun t k => XS.iadd X0.here hx rfl (hb hby at_7) rfl k) ?_
  show own_Go p.tables e below K (s₁.setTop (mkF m 8 #[.val (.int q1), .val (.int q2), .val (.int q3), .val (.int q4), .val (.int q5), .unset, .unset, .unset, .unset, .unset, .unset, .unset, .unset, .unset, .unset, .unset] [(.int ((2 : Int32) + ((q1 &&& (2147483647 : Int32)) % (3 : Int32))))]))
  refine own_by (fun t k => XS.istore X0.here hx rfl (hb hby at_8) rfl (l' := #[.val (.int q1), .val (.int q2), .val (.int q3), .val (.int q4), .val (.int q5), .val (.int ((2 : Int32) + ((q1 &&& (2147483647 : Int32)) % (3 : Int32)))), .unset, .unset, .unset, .unset, .unset, .unset, .unset, .unset, .unset, .unset]) rfl k) ?_
  show own_Go p.tables e below K (s₁.setTop (mkF m 10 #[.val (.int q1), .val (.int q2), .val (.int q3), .val (.int q4), .val (.int q5), .val (.int ((2 : Int32) + ((q1 &&& (2147483647 : Int32)) % (3 : Int32)))), .unset, .unset, .unset, .unset, .unset, .unset, .unset, .unset, .unset, .unset] []))
  refine own_by (fun t k => XS.iloadN X0.here hx rfl (hb hby at_10) rfl k) ?_
  show own_Go p.tables e below K (s₁.setTop (mkF m 11 #[.val (.int q1), .val (.int q2), .val (.int q3), .val (.int q4), .val (.int q5), .val (.int ((2 : Int32) + ((q1 &&& (2147483647 : Int32)) % (3 : Int32)))), .unset, .unset, .unset, .unset, .unset, .unset, .unset, .unset, .unset, .unset] [(.int q2)]))
  refine own_by (fun t k => X0.ldcInt hx hown (mvT hZ (hw _ (List.mem_of_getElem? (i := 0) rfl))) (g := (mkF m 11 #[.val (.int q1), .val (.int q2), .val (.int q3), .val (.int q4), .val (.int q5), .val (.int ((2 : Int32) + ((q1 &&& (2147483647 : Int32)) % (3 : Int32)))), .unset, .unset, .unset, .unset, .unset, .unset, .unset, .unset, .unset, .unset] [(.int q2)])) rfl (hb hby at_11) _ k) ?_
  show own_Go p.tables e below K (s₁.setTop (mkF m 13 #[.val (.int q1), .val (.int q2), .val (.int q3), .val (.int q4), .val (.int q5), .val (.int ((2 : Int32) + ((q1 &&& (2147483647 : Int32)) % (3 : Int32)))), .unset, .unset, .unset, .unset, .unset, .unset, .unset, .unset, .unset, .unset] [(.int (2147483647 : Int32)), (.int q2)]))
  refine own_by (fun t k => XS.iand X0.here hx rfl (hb hby at_13) rfl k) ?_
  show own_Go p.tables e below K (s₁.setTop (mkF m 14 #[.val (.int q1), .val (.int q2), .val (.int q3), .val (.int q4), .val (.int q5), .val (.int ((2 : Int32) + ((q1 &&& (2147483647 : Int32)) % (3 : Int32)))), .unset, .unset, .unset, .unset, .unset, .unset, .unset, .unset, .unset, .unset] [(.int (q2 &&& (2147483647 : Int32)))]))
  refine own_by (fun t k => XS.bipush X0.here hx rfl (hb hby at_14) k) ?_
  show own_Go p.tables e below K (s₁.setTop (mkF m 16 #[.val (.int q1), .val (.int q2), .val (.int q3), .val (.int q4), .val (.int q5), .val (.int ((2 : Int32) + ((q1 &&& (2147483647 : Int32)) % (3 : Int32)))), .unset, .unset, .unset, .unset, .unset, .unset, .unset, .unset, .unset, .unset] [(.int (9 : Int32)), (.int (q2 &&& (2147483647 : Int32)))]))
  refine own_by (fun t k => iremM X0 hx rfl (hb hby at_16) rfl (by decide) k) ?_
  show own_Go p.tables e below K (s₁.setTop (mkF m 17 #[.val (.int q1), .val (.int q2), .val (.int q3), .val (.int q4), .val (.int q5), .val (.int ((2 : Int32) + ((q1 &&& (2147483647 : Int32)) % (3 : Int32)))), .unset, .unset, .unset, .unset, .unset, .unset, .unset, .unset, .unset, .unset] [(.int ((q2 &&& (2147483647 : Int32)) % (9 : Int32)))]))
  refine own_by (fun t k => XS.istore X0.here hx rfl (hb hby at_17) rfl (l' := #[.val (.int q1), .val (.int q2), .val (.int q3), .val (.int q4), .val (.int q5), .val (.int ((2 : Int32) + ((q1 &&& (2147483647 : Int32)) % (3 : Int32)))), .val (.int ((q2 &&& (2147483647 : Int32)) % (9 : Int32))), .unset, .unset, .unset, .unset, .unset, .unset, .unset, .unset, .unset]) rfl k) ?_
  show own_Go p.tables e below K (s₁.setTop (mkF m 19 #[.val (.int q1), .val (.int q2), .val (.int q3), .val (.int q4), .val (.int q5), .val (.int ((2 : Int32) + ((q1 &&& (2147483647 : Int32)) % (3 : Int32)))), .val (.int ((q2 &&& (2147483647 : Int32)) % (9 : Int32))), .unset, .unset, .unset, .unset, .unset, .unset, .unset, .unset, .unset] []))
  refine own_by (fun t k => XS.iloadN X0.here hx rfl (hb hby at_19) rfl k) ?_
  show own_Go p.tables e below K (s₁.setTop (mkF m 20 #[.val (.int q1), .val (.int q2), .val (.int q3), .val (.int q4), .val (.int q5), .val (.int ((2 : Int32) + ((q1 &&& (2147483647 : Int32)) % (3 : Int32)))), .val (.int ((q2 &&& (2147483647 : Int32)) % (9 : Int32))), .unset, .unset, .unset, .unset, .unset, .unset, .unset, .unset, .unset] [(.int q3)]))
  refine own_by (fun t k => X0.ldcInt hx hown (mvT hZ (hw _ (List.mem_of_getElem? (i := 0) rfl))) (g := (mkF m 20 #[.val (.int q1), .val (.int q2), .val (.int q3), .val (.int q4), .val (.int q5), .val (.int ((2 : Int32) + ((q1 &&& (2147483647 : Int32)) % (3 : Int32)))), .val (.int ((q2 &&& (2147483647 : Int32)) % (9 : Int32))), .unset, .unset, .unset, .unset, .unset, .unset, .unset, .unset, .unset] [(.int q3)])) rfl (hb hby at_20) _ k) ?_
  show own_Go p.tables e below K (s₁.setTop (mkF m 22 #[.val (.int q1), .val (.int q2), .val (.int q3), .val (.int q4), .val (.int q5), .val (.int ((2 : Int32) + ((q1 &&& (2147483647 : Int32)) % (3 : Int32)))), .val (.int ((q2 &&& (2147483647 : Int32)) % (9 : Int32))), .unset, .unset, .unset, .unset, .unset, .unset, .unset, .unset, .unset] [(.int (2147483647 : Int32)), (.int q3)]))
  refine own_by (fun t k => XS.iand X0.here hx rfl (hb hby at_22) rfl k) ?_
  show own_Go p.tables e below K (s₁.setTop (mkF m 23 #[.val (.int q1), .val (.int q2), .val (.int q3), .val (.int q4), .val (.int q5), .val (.int ((2 : Int32) + ((q1 &&& (2147483647 : Int32)) % (3 : Int32)))), .val (.int ((q2 &&& (2147483647 : Int32)) % (9 : Int32))), .unset, .unset, .unset, .unset, .unset, .unset, .unset, .unset, .unset] [(.int (q3 &&& (2147483647 : Int32)))]))
  refine own_by (fun t k => XS.bipush X0.here hx rfl (hb hby at_23) k) ?_
  show own_Go p.tables e below K (s₁.setTop (mkF m 25 #[.val (.int q1), .val (.int q2), .val (.int q3), .val (.int q4), .val (.int q5), .val (.int ((2 : Int32) + ((q1 &&& (2147483647 : Int32)) % (3 : Int32)))), .val (.int ((q2 &&& (2147483647 : Int32)) % (9 : Int32))), .unset, .unset, .unset, .unset, .unset, .unset, .unset, .unset, .unset] [(.int (9 : Int32)), (.int (q3 &&& (2147483647 : Int32)))]))
  refine own_by (fun t k => iremM X0 hx rfl (hb hby at_25) rfl (by decide) k) ?_
  show own_Go p.tables e below K (s₁.setTop (mkF m 26 #[.val (.int q1), .val (.int q2), .val (.int q3), .val (.int q4), .val (.int q5), .val (.int ((2 : Int32) + ((q1 &&& (2147483647 : Int32)) % (3 : Int32)))), .val (.int ((q2 &&& (2147483647 : Int32)) % (9 : Int32))), .unset, .unset, .unset, .unset, .unset, .unset, .unset, .unset, .unset] [(.int ((q3 &&& (2147483647 : Int32)) % (9 : Int32)))]))
  refine own_by (fun t k => XS.istore X0.here hx rfl (hb hby at_26) rfl (l' := #[.val (.int q1), .val (.int q2), .val (.int q3), .val (.int q4), .val (.int q5), .val (.int ((2 : Int32) + ((q1 &&& (2147483647 : Int32)) % (3 : Int32)))), .val (.int ((q2 &&& (2147483647 : Int32)) % (9 : Int32))), .val (.int ((q3 &&& (2147483647 : Int32)) % (9 : Int32))), .unset, .unset, .unset, .unset, .unset, .unset, .unset, .unset]) rfl k) ?_
  show own_Go p.tables e below K (s₁.setTop (mkF m 28 #[.val (.int q1), .val (.int q2), .val (.int q3), .val (.int q4), .val (.int q5), .val (.int ((2 : Int32) + ((q1 &&& (2147483647 : Int32)) % (3 : Int32)))), .val (.int ((q2 &&& (2147483647 : Int32)) % (9 : Int32))), .val (.int ((q3 &&& (2147483647 : Int32)) % (9 : Int32))), .unset, .unset, .unset, .unset, .unset, .unset, .unset, .unset] []))
  refine own_by (fun t k => XS.iloadN X0.here hx rfl (hb hby at_28) rfl k) ?_
  show own_Go p.tables e below K (s₁.setTop (mkF m 29 #[.val (.int q1), .val (.int q2), .val (.int q3), .val (.int q4), .val (.int q5), .val (.int ((2 : Int32) + ((q1 &&& (2147483647 : Int32)) % (3 : Int32)))), .val (.int ((q2 &&& (2147483647 : Int32)) % (9 : Int32))), .val (.int ((q3 &&& (2147483647 : Int32)) % (9 : Int32))), .unset, .unset, .unset, .unset, .unset, .unset, .unset, .unset] [(.int q4)]))
  refine own_by (fun t k => X0.ldcInt hx hown (mvT hZ (hw _ (List.mem_of_getElem? (i := 0) rfl))) (g := (mkF m 29 #[.val (.int q1), .val (.int q2), .val (.int q3), .val (.int q4), .val (.int q5), .val (.int ((2 : Int32) + ((q1 &&& (2147483647 : Int32)) % (3 : Int32)))), .val (.int ((q2 &&& (2147483647 : Int32)) % (9 : Int32))), .val (.int ((q3 &&& (2147483647 : Int32)) % (9 : Int32))), .unset, .unset, .unset, .unset, .unset, .unset, .unset, .unset] [(.int q4)])) rfl (hb hby at_29) _ k) ?_
  show own_Go p.tables e below K (s₁.setTop (mkF m 31 #[.val (.int q1), .val (.int q2), .val (.int q3), .val (.int q4), .val (.int q5), .val (.int ((2 : Int32) + ((q1 &&& (2147483647 : Int32)) % (3 : Int32)))), .val (.int ((q2 &&& (2147483647 : Int32)) % (9 : Int32))), .val (.int ((q3 &&& (2147483647 : Int32)) % (9 : Int32))), .unset, .unset, .unset, .unset, .unset, .unset, .unset, .unset] [(.int (2147483647 : Int32)), (.int q4)]))
  refine own_by (fun t k => XS.iand X0.here hx rfl (hb hby at_31) rfl k) ?_
  show own_Go p.tables e below K (s₁.setTop (mkF m 32 #[.val (.int q1), .val (.int q2), .val (.int q3), .val (.int q4), .val (.int q5), .val (.int ((2 : Int32) + ((q1 &&& (2147483647 : Int32)) % (3 : Int32)))), .val (.int ((q2 &&& (2147483647 : Int32)) % (9 : Int32))), .val (.int ((q3 &&& (2147483647 : Int32)) % (9 : Int32))), .unset, .unset, .unset, .unset, .unset, .unset, .unset, .unset] [(.int (q4 &&& (2147483647 : Int32)))]))
  refine own_by (fun t k => XS.bipush X0.here hx rfl (hb hby at_32) k) ?_
  show own_Go p.tables e below K (s₁.setTop (mkF m 34 #[.val (.int q1), .val (.int q2), .val (.int q3), .val (.int q4), .val (.int q5), .val (.int ((2 : Int32) + ((q1 &&& (2147483647 : Int32)) % (3 : Int32)))), .val (.int ((q2 &&& (2147483647 : Int32)) % (9 : Int32))), .val (.int ((q3 &&& (2147483647 : Int32)) % (9 : Int32))), .unset, .unset, .unset, .unset, .unset, .unset, .unset, .unset] [(.int (9 : Int32)), (.int (q4 &&& (2147483647 : Int32)))]))
  refine own_by (fun t k => iremM X0 hx rfl (hb hby at_34) rfl (by decide) k) ?_
  show own_Go p.tables e below K (s₁.setTop (mkF m 35 #[.val (.int q1), .val (.int q2), .val (.int q3), .val (.int q4), .val (.int q5), .val (.int ((2 : Int32) + ((q1 &&& (2147483647 : Int32)) % (3 : Int32)))), .val (.int ((q2 &&& (2147483647 : Int32)) % (9 : Int32))), .val (.int ((q3 &&& (2147483647 : Int32)) % (9 : Int32))), .unset, .unset, .unset, .unset, .unset, .unset, .unset, .unset] [(.int ((q4 &&& (2147483647 : Int32)) % (9 : Int32)))]))
  refine own_by (fun t k => XS.istore X0.here hx rfl (hb hby at_35) rfl (l' := #[.val (.int q1), .val (.int q2), .val (.int q3), .val (.int q4), .val (.int q5), .val (.int ((2 : Int32) + ((q1 &&& (2147483647 : Int32)) % (3 : Int32)))), .val (.int ((q2 &&& (2147483647 : Int32)) % (9 : Int32))), .val (.int ((q3 &&& (2147483647 : Int32)) % (9 : Int32))), .val (.int ((q4 &&& (2147483647 : Int32)) % (9 : Int32))), .unset, .unset, .unset, .unset, .unset, .unset, .unset]) rfl k) ?_
  show own_Go p.tables e below K (s₁.setTop (mkF m 37 #[.val (.int q1), .val (.int q2), .val (.int q3), .val (.int q4), .val (.int q5), .val (.int ((2 : Int32) + ((q1 &&& (2147483647 : Int32)) % (3 : Int32)))), .val (.int ((q2 &&& (2147483647 : Int32)) % (9 : Int32))), .val (.int ((q3 &&& (2147483647 : Int32)) % (9 : Int32))), .val (.int ((q4 &&& (2147483647 : Int32)) % (9 : Int32))), .unset, .unset, .unset, .unset, .unset, .unset, .unset] []))
  refine own_by (fun t k => XS.iload X0.here hx rfl (hb hby at_37) rfl k) ?_
  show own_Go p.tables e below K (s₁.setTop (mkF m 39 #[.val (.int q1), .val (.int q2), .val (.int q3), .val (.int q4), .val (.int q5), .val (.int ((2 : Int32) + ((q1 &&& (2147483647 : Int32)) % (3 : Int32)))), .val (.int ((q2 &&& (2147483647 : Int32)) % (9 : Int32))), .val (.int ((q3 &&& (2147483647 : Int32)) % (9 : Int32))), .val (.int ((q4 &&& (2147483647 : Int32)) % (9 : Int32))), .unset, .unset, .unset, .unset, .unset, .unset, .unset] [(.int q5)]))
  refine own_by (fun t k => X0.ldcInt hx hown (mvT hZ (hw _ (List.mem_of_getElem? (i := 0) rfl))) (g := (mkF m 39 #[.val (.int q1), .val (.int q2), .val (.int q3), .val (.int q4), .val (.int q5), .val (.int ((2 : Int32) + ((q1 &&& (2147483647 : Int32)) % (3 : Int32)))), .val (.int ((q2 &&& (2147483647 : Int32)) % (9 : Int32))), .val (.int ((q3 &&& (2147483647 : Int32)) % (9 : Int32))), .val (.int ((q4 &&& (2147483647 : Int32)) % (9 : Int32))), .unset, .unset, .unset, .unset, .unset, .unset, .unset] [(.int q5)])) rfl (hb hby at_39) _ k) ?_
  show own_Go p.tables e below K (s₁.setTop (mkF m 41 #[.val (.int q1), .val (.int q2), .val (.int q3), .val (.int q4), .val (.int q5), .val (.int ((2 : Int32) + ((q1 &&& (2147483647 : Int32)) % (3 : Int32)))), .val (.int ((q2 &&& (2147483647 : Int32)) % (9 : Int32))), .val (.int ((q3 &&& (2147483647 : Int32)) % (9 : Int32))), .val (.int ((q4 &&& (2147483647 : Int32)) % (9 : Int32))), .unset, .unset, .unset, .unset, .unset, .unset, .unset] [(.int (2147483647 : Int32)), (.int q5)]))
  refine own_by (fun t k => XS.iand X0.here hx rfl (hb hby at_41) rfl k) ?_
  show own_Go p.tables e below K (s₁.setTop (mkF m 42 #[.val (.int q1), .val (.int q2), .val (.int q3), .val (.int q4), .val (.int q5), .val (.int ((2 : Int32) + ((q1 &&& (2147483647 : Int32)) % (3 : Int32)))), .val (.int ((q2 &&& (2147483647 : Int32)) % (9 : Int32))), .val (.int ((q3 &&& (2147483647 : Int32)) % (9 : Int32))), .val (.int ((q4 &&& (2147483647 : Int32)) % (9 : Int32))), .unset, .unset, .unset, .unset, .unset, .unset, .unset] [(.int (q5 &&& (2147483647 : Int32)))]))
  refine own_by (fun t k => XS.bipush X0.here hx rfl (hb hby at_42) k) ?_
  show own_Go p.tables e below K (s₁.setTop (mkF m 44 #[.val (.int q1), .val (.int q2), .val (.int q3), .val (.int q4), .val (.int q5), .val (.int ((2 : Int32) + ((q1 &&& (2147483647 : Int32)) % (3 : Int32)))), .val (.int ((q2 &&& (2147483647 : Int32)) % (9 : Int32))), .val (.int ((q3 &&& (2147483647 : Int32)) % (9 : Int32))), .val (.int ((q4 &&& (2147483647 : Int32)) % (9 : Int32))), .unset, .unset, .unset, .unset, .unset, .unset, .unset] [(.int (9 : Int32)), (.int (q5 &&& (2147483647 : Int32)))]))
  refine own_by (fun t k => iremM X0 hx rfl (hb hby at_44) rfl (by decide) k) ?_
  show own_Go p.tables e below K (s₁.setTop (mkF m 45 #[.val (.int q1), .val (.int q2), .val (.int q3), .val (.int q4), .val (.int q5), .val (.int ((2 : Int32) + ((q1 &&& (2147483647 : Int32)) % (3 : Int32)))), .val (.int ((q2 &&& (2147483647 : Int32)) % (9 : Int32))), .val (.int ((q3 &&& (2147483647 : Int32)) % (9 : Int32))), .val (.int ((q4 &&& (2147483647 : Int32)) % (9 : Int32))), .unset, .unset, .unset, .unset, .unset, .unset, .unset] [(.int ((q5 &&& (2147483647 : Int32)) % (9 : Int32)))]))
  refine own_by (fun t k => XS.istore X0.here hx rfl (hb hby at_45) rfl (l' := #[.val (.int q1), .val (.int q2), .val (.int q3), .val (.int q4), .val (.int q5), .val (.int ((2 : Int32) + ((q1 &&& (2147483647 : Int32)) % (3 : Int32)))), .val (.int ((q2 &&& (2147483647 : Int32)) % (9 : Int32))), .val (.int ((q3 &&& (2147483647 : Int32)) % (9 : Int32))), .val (.int ((q4 &&& (2147483647 : Int32)) % (9 : Int32))), .val (.int ((q5 &&& (2147483647 : Int32)) % (9 : Int32))), .unset, .unset, .unset, .unset, .unset, .unset]) rfl k) ?_
  have J47 : ∀ mm k1 k2 k3 k4 : Int32, (mm = 2 ∨ mm = 3 ∨ mm = 4) → own_is k1 8 → own_is k2 8 → own_is k3 8 → own_is k4 8 → own_Go p.tables e below K (s₁.setTop (mkF m 47 #[.val (.int q1), .val (.int q2), .val (.int q3), .val (.int q4), .val (.int q5), .val (.int mm), .val (.int k1), .val (.int k2), .val (.int k3), .val (.int k4), .unset, .unset, .unset, .unset, .unset, .unset] [])) := by
    intro mm k1 k2 k3 k4 hmm hk1 hk2 hk3 hk4
    rcases hmm with rfl | rfl | rfl
    · show own_Go p.tables e below K (s₁.setTop (mkF m 47 #[.val (.int q1), .val (.int q2), .val (.int q3), .val (.int q4), .val (.int q5), .val (.int (2 : Int32)), .val (.int k1), .val (.int k2), .val (.int k3), .val (.int k4), .unset, .unset, .unset, .unset, .unset, .unset] []))
      refine own_by (fun t k => XS.iconst X0.here hx rfl (hb hby at_47) k) ?_
      show own_Go p.tables e below K (s₁.setTop (mkF m 48 #[.val (.int q1), .val (.int q2), .val (.int q3), .val (.int q4), .val (.int q5), .val (.int (2 : Int32)), .val (.int k1), .val (.int k2), .val (.int k3), .val (.int k4), .unset, .unset, .unset, .unset, .unset, .unset] [(.int (4 : Int32))]))
      obtain ⟨T22, h22, k22, X22, e22, E22, A22, st22⟩ := newP X0 hx hZ (hw _ (List.mem_of_getElem? (i := 1) rfl)) e0 (g := (mkF m 48 #[.val (.int q1), .val (.int q2), .val (.int q3), .val (.int q4), .val (.int q5), .val (.int (2 : Int32)), .val (.int k1), .val (.int k2), .val (.int k3), .val (.int k4), .unset, .unset, .unset, .unset, .unset, .unset] [(.int (4 : Int32))])) rfl (hb hby at_48) rfl (by decide) (cap := 4) (by decide) (by decide) (by decide) (by decide)
      obtain ⟨b22, g22⟩ : ∃ z, z = h0.size := ⟨_, rfl⟩
      rw [← g22] at A22 st22
      refine own_by st22 ?_
      have gn_b22 : n0 ≤ b22 := Nat.le_trans Z0 (Nat.le_of_eq g22.symm)
      have Z22 := Nat.le_trans Z0 E22.1
      have V22 : Arv Z h22 b22 k22 .double (4 : Int32) [(.double (FP.l2d 0)), (.double (FP.l2d 0)), (.double (FP.l2d 0)), (.double (FP.l2d 0))] (.double (FP.l2d 0)) := (Arv.newD A22 (by decide)).pad (pad_rep [] (.double (FP.l2d 0)) 4)
      show own_Go p.tables e below K (T22.setTop (mkF m 50 #[.val (.int q1), .val (.int q2), .val (.int q3), .val (.int q4), .val (.int q5), .val (.int (2 : Int32)), .val (.int k1), .val (.int k2), .val (.int k3), .val (.int k4), .unset, .unset, .unset, .unset, .unset, .unset] [(.ref b22)]))
      refine own_by (fun t k => XS.astore X22.here hx rfl (hb hby at_50) rfl rfl (l' := #[.val (.int q1), .val (.int q2), .val (.int q3), .val (.int q4), .val (.int q5), .val (.int (2 : Int32)), .val (.int k1), .val (.int k2), .val (.int k3), .val (.int k4), .val (.ref b22), .unset, .unset, .unset, .unset, .unset]) rfl k) ?_
      show own_Go p.tables e below K (T22.setTop (mkF m 52 #[.val (.int q1), .val (.int q2), .val (.int q3), .val (.int q4), .val (.int q5), .val (.int (2 : Int32)), .val (.int k1), .val (.int k2), .val (.int k3), .val (.int k4), .val (.ref b22), .unset, .unset, .unset, .unset, .unset] []))
      refine own_by (fun t k => XS.aload X22.here hx rfl (hb hby at_52) rfl rfl k) ?_
      show own_Go p.tables e below K (T22.setTop (mkF m 54 #[.val (.int q1), .val (.int q2), .val (.int q3), .val (.int q4), .val (.int q5), .val (.int (2 : Int32)), .val (.int k1), .val (.int k2), .val (.int k3), .val (.int k4), .val (.ref b22), .unset, .unset, .unset, .unset, .unset] [(.ref b22)]))
      refine own_by (fun t k => XS.iconst X22.here hx rfl (hb hby at_54) k) ?_
      show own_Go p.tables e below K (T22.setTop (mkF m 55 #[.val (.int q1), .val (.int q2), .val (.int q3), .val (.int q4), .val (.int q5), .val (.int (2 : Int32)), .val (.int k1), .val (.int k2), .val (.int k3), .val (.int k4), .val (.ref b22), .unset, .unset, .unset, .unset, .unset] [(.int (0 : Int32)), (.ref b22)]))
      refine own_by (fun t k => XS.iload X22.here hx rfl (hb hby at_55) rfl k) ?_
      show own_Go p.tables e below K (T22.setTop (mkF m 57 #[.val (.int q1), .val (.int q2), .val (.int q3), .val (.int q4), .val (.int q5), .val (.int (2 : Int32)), .val (.int k1), .val (.int k2), .val (.int k3), .val (.int k4), .val (.ref b22), .unset, .unset, .unset, .unset, .unset] [(.int k1), (.int (0 : Int32)), (.ref b22)]))
      refine own_by (fun t k => XS.i2dS X22.here hx rfl (hb hby at_57) rfl (i2d_w _) k) ?_
      show own_Go p.tables e below K (T22.setTop (mkF m 58 #[.val (.int q1), .val (.int q2), .val (.int q3), .val (.int q4), .val (.int q5), .val (.int (2 : Int32)), .val (.int k1), .val (.int k2), .val (.int k3), .val (.int k4), .val (.ref b22), .unset, .unset, .unset, .unset, .unset] [(.double (FP.l2d k1.toInt64)), (.int (0 : Int32)), (.ref b22)]))
      refine own_by (fun t k => X22.ldc2DoubleC hx hown (mvT hZ (hw _ (List.mem_of_getElem? (i := 2) rfl))) (g := (mkF m 58 #[.val (.int q1), .val (.int q2), .val (.int q3), .val (.int q4), .val (.int q5), .val (.int (2 : Int32)), .val (.int k1), .val (.int k2), .val (.int k3), .val (.int k4), .val (.ref b22), .unset, .unset, .unset, .unset, .unset] [(.double (FP.l2d k1.toInt64)), (.int (0 : Int32)), (.ref b22)])) rfl (hb hby at_58) _ k) ?_
      show own_Go p.tables e below K (T22.setTop (mkF m 61 #[.val (.int q1), .val (.int q2), .val (.int q3), .val (.int q4), .val (.int q5), .val (.int (2 : Int32)), .val (.int k1), .val (.int k2), .val (.int k3), .val (.int k4), .val (.ref b22), .unset, .unset, .unset, .unset, .unset] [(.double (4620693217682128896 : UInt64)), (.double (FP.l2d k1.toInt64)), (.int (0 : Int32)), (.ref b22)]))
      refine own_by (fun t k => XS.ddivS X22.here hx rfl (hb hby at_61) rfl (own_fX hk1) rfl k) ?_
      show own_Go p.tables e below K (T22.setTop (mkF m 62 #[.val (.int q1), .val (.int q2), .val (.int q3), .val (.int q4), .val (.int q5), .val (.int (2 : Int32)), .val (.int k1), .val (.int k2), .val (.int k3), .val (.int k4), .val (.ref b22), .unset, .unset, .unset, .unset, .unset] [(.double (own_X k1)), (.int (0 : Int32)), (.ref b22)]))
      obtain ⟨cl23, Ar23, q23, S23, M23, H23, U23⟩ := id V22
      obtain ⟨T23, h23, X23, e23, W23, st23⟩ := stD X22 hx hZ e22 Ar23 (j := (0 : Int32)) (inb_of S23 ⟨by decide, by decide⟩) (g := (mkF m 62 #[.val (.int q1), .val (.int q2), .val (.int q3), .val (.int q4), .val (.int q5), .val (.int (2 : Int32)), .val (.int k1), .val (.int k2), .val (.int k3), .val (.int k4), .val (.ref b22), .unset, .unset, .unset, .unset, .unset] [(.double (own_X k1)), (.int (0 : Int32)), (.ref b22)])) rfl rfl (hb hby at_62)
      refine own_by st23 ?_
      have V23 : Arv Z h23 b22 k22 .double (4 : Int32) [(.double (own_X k1)), (.double (FP.l2d 0)), (.double (FP.l2d 0)), (.double (FP.l2d 0))] (.double (FP.l2d 0)) := Arv.set Ar23 q23 S23 M23 H23 U23 rfl W23 0 rfl (Nat.le_of_ble_eq_true rfl)
      have Z23 := Nat.le_trans Z22 (Keep.of_wr W23).1
      have N23 := Fr.snoc X23 N0 gn_b22
      show own_Go p.tables e below K (T23.setTop (mkF m 63 #[.val (.int q1), .val (.int q2), .val (.int q3), .val (.int q4), .val (.int q5), .val (.int (2 : Int32)), .val (.int k1), .val (.int k2), .val (.int k3), .val (.int k4), .val (.ref b22), .unset, .unset, .unset, .unset, .unset] []))
      refine own_by (fun t k => XS.aload X23.here hx rfl (hb hby at_63) rfl rfl k) ?_
      show own_Go p.tables e below K (T23.setTop (mkF m 65 #[.val (.int q1), .val (.int q2), .val (.int q3), .val (.int q4), .val (.int q5), .val (.int (2 : Int32)), .val (.int k1), .val (.int k2), .val (.int k3), .val (.int k4), .val (.ref b22), .unset, .unset, .unset, .unset, .unset] [(.ref b22)]))
      refine own_by (fun t k => XS.iconst X23.here hx rfl (hb hby at_65) k) ?_
      show own_Go p.tables e below K (T23.setTop (mkF m 66 #[.val (.int q1), .val (.int q2), .val (.int q3), .val (.int q4), .val (.int q5), .val (.int (2 : Int32)), .val (.int k1), .val (.int k2), .val (.int k3), .val (.int k4), .val (.ref b22), .unset, .unset, .unset, .unset, .unset] [(.int (1 : Int32)), (.ref b22)]))
      refine own_by (fun t k => XS.iload X23.here hx rfl (hb hby at_66) rfl k) ?_
      show own_Go p.tables e below K (T23.setTop (mkF m 68 #[.val (.int q1), .val (.int q2), .val (.int q3), .val (.int q4), .val (.int q5), .val (.int (2 : Int32)), .val (.int k1), .val (.int k2), .val (.int k3), .val (.int k4), .val (.ref b22), .unset, .unset, .unset, .unset, .unset] [(.int k2), (.int (1 : Int32)), (.ref b22)]))
      refine own_by (fun t k => XS.i2dS X23.here hx rfl (hb hby at_68) rfl (i2d_w _) k) ?_
      show own_Go p.tables e below K (T23.setTop (mkF m 69 #[.val (.int q1), .val (.int q2), .val (.int q3), .val (.int q4), .val (.int q5), .val (.int (2 : Int32)), .val (.int k1), .val (.int k2), .val (.int k3), .val (.int k4), .val (.ref b22), .unset, .unset, .unset, .unset, .unset] [(.double (FP.l2d k2.toInt64)), (.int (1 : Int32)), (.ref b22)]))
      refine own_by (fun t k => X23.ldc2DoubleC hx hown (mvT hZ (hw _ (List.mem_of_getElem? (i := 2) rfl))) (g := (mkF m 69 #[.val (.int q1), .val (.int q2), .val (.int q3), .val (.int q4), .val (.int q5), .val (.int (2 : Int32)), .val (.int k1), .val (.int k2), .val (.int k3), .val (.int k4), .val (.ref b22), .unset, .unset, .unset, .unset, .unset] [(.double (FP.l2d k2.toInt64)), (.int (1 : Int32)), (.ref b22)])) rfl (hb hby at_69) _ k) ?_
      show own_Go p.tables e below K (T23.setTop (mkF m 72 #[.val (.int q1), .val (.int q2), .val (.int q3), .val (.int q4), .val (.int q5), .val (.int (2 : Int32)), .val (.int k1), .val (.int k2), .val (.int k3), .val (.int k4), .val (.ref b22), .unset, .unset, .unset, .unset, .unset] [(.double (4620693217682128896 : UInt64)), (.double (FP.l2d k2.toInt64)), (.int (1 : Int32)), (.ref b22)]))
      refine own_by (fun t k => XS.ddivS X23.here hx rfl (hb hby at_72) rfl (own_fX hk2) rfl k) ?_
      show own_Go p.tables e below K (T23.setTop (mkF m 73 #[.val (.int q1), .val (.int q2), .val (.int q3), .val (.int q4), .val (.int q5), .val (.int (2 : Int32)), .val (.int k1), .val (.int k2), .val (.int k3), .val (.int k4), .val (.ref b22), .unset, .unset, .unset, .unset, .unset] [(.double (own_X k2)), (.int (1 : Int32)), (.ref b22)]))
      obtain ⟨cl24, Ar24, q24, S24, M24, H24, U24⟩ := id V23
      obtain ⟨T24, h24, X24, e24, W24, st24⟩ := stD X23 hx hZ e23 Ar24 (j := (1 : Int32)) (inb_of S24 ⟨by decide, by decide⟩) (g := (mkF m 73 #[.val (.int q1), .val (.int q2), .val (.int q3), .val (.int q4), .val (.int q5), .val (.int (2 : Int32)), .val (.int k1), .val (.int k2), .val (.int k3), .val (.int k4), .val (.ref b22), .unset, .unset, .unset, .unset, .unset] [(.double (own_X k2)), (.int (1 : Int32)), (.ref b22)])) rfl rfl (hb hby at_73)
      refine own_by st24 ?_
      have V24 : Arv Z h24 b22 k22 .double (4 : Int32) [(.double (own_X k1)), (.double (own_X k2)), (.double (FP.l2d 0)), (.double (FP.l2d 0))] (.double (FP.l2d 0)) := Arv.set Ar24 q24 S24 M24 H24 U24 rfl W24 1 rfl (Nat.le_of_ble_eq_true rfl)
      have Z24 := Nat.le_trans Z23 (Keep.of_wr W24).1
      have N24 := Fr.snoc X24 N23 gn_b22
      show own_Go p.tables e below K (T24.setTop (mkF m 74 #[.val (.int q1), .val (.int q2), .val (.int q3), .val (.int q4), .val (.int q5), .val (.int (2 : Int32)), .val (.int k1), .val (.int k2), .val (.int k3), .val (.int k4), .val (.ref b22), .unset, .unset, .unset, .unset, .unset] []))
      refine own_by (fun t k => XS.aload X24.here hx rfl (hb hby at_74) rfl rfl k) ?_
      show own_Go p.tables e below K (T24.setTop (mkF m 76 #[.val (.int q1), .val (.int q2), .val (.int q3), .val (.int q4), .val (.int q5), .val (.int (2 : Int32)), .val (.int k1), .val (.int k2), .val (.int k3), .val (.int k4), .val (.ref b22), .unset, .unset, .unset, .unset, .unset] [(.ref b22)]))
      refine own_by (fun t k => XS.iconst X24.here hx rfl (hb hby at_76) k) ?_
      show own_Go p.tables e below K (T24.setTop (mkF m 77 #[.val (.int q1), .val (.int q2), .val (.int q3), .val (.int q4), .val (.int q5), .val (.int (2 : Int32)), .val (.int k1), .val (.int k2), .val (.int k3), .val (.int k4), .val (.ref b22), .unset, .unset, .unset, .unset, .unset] [(.int (2 : Int32)), (.ref b22)]))
      refine own_by (fun t k => XS.iload X24.here hx rfl (hb hby at_77) rfl k) ?_
      show own_Go p.tables e below K (T24.setTop (mkF m 79 #[.val (.int q1), .val (.int q2), .val (.int q3), .val (.int q4), .val (.int q5), .val (.int (2 : Int32)), .val (.int k1), .val (.int k2), .val (.int k3), .val (.int k4), .val (.ref b22), .unset, .unset, .unset, .unset, .unset] [(.int k3), (.int (2 : Int32)), (.ref b22)]))
      refine own_by (fun t k => XS.i2dS X24.here hx rfl (hb hby at_79) rfl (i2d_w _) k) ?_
      show own_Go p.tables e below K (T24.setTop (mkF m 80 #[.val (.int q1), .val (.int q2), .val (.int q3), .val (.int q4), .val (.int q5), .val (.int (2 : Int32)), .val (.int k1), .val (.int k2), .val (.int k3), .val (.int k4), .val (.ref b22), .unset, .unset, .unset, .unset, .unset] [(.double (FP.l2d k3.toInt64)), (.int (2 : Int32)), (.ref b22)]))
      refine own_by (fun t k => X24.ldc2DoubleC hx hown (mvT hZ (hw _ (List.mem_of_getElem? (i := 2) rfl))) (g := (mkF m 80 #[.val (.int q1), .val (.int q2), .val (.int q3), .val (.int q4), .val (.int q5), .val (.int (2 : Int32)), .val (.int k1), .val (.int k2), .val (.int k3), .val (.int k4), .val (.ref b22), .unset, .unset, .unset, .unset, .unset] [(.double (FP.l2d k3.toInt64)), (.int (2 : Int32)), (.ref b22)])) rfl (hb hby at_80) _ k) ?_
      show own_Go p.tables e below K (T24.setTop (mkF m 83 #[.val (.int q1), .val (.int q2), .val (.int q3), .val (.int q4), .val (.int q5), .val (.int (2 : Int32)), .val (.int k1), .val (.int k2), .val (.int k3), .val (.int k4), .val (.ref b22), .unset, .unset, .unset, .unset, .unset] [(.double (4620693217682128896 : UInt64)), (.double (FP.l2d k3.toInt64)), (.int (2 : Int32)), (.ref b22)]))
      refine own_by (fun t k => XS.ddivS X24.here hx rfl (hb hby at_83) rfl (own_fX hk3) rfl k) ?_
      show own_Go p.tables e below K (T24.setTop (mkF m 84 #[.val (.int q1), .val (.int q2), .val (.int q3), .val (.int q4), .val (.int q5), .val (.int (2 : Int32)), .val (.int k1), .val (.int k2), .val (.int k3), .val (.int k4), .val (.ref b22), .unset, .unset, .unset, .unset, .unset] [(.double (own_X k3)), (.int (2 : Int32)), (.ref b22)]))
      obtain ⟨cl25, Ar25, q25, S25, M25, H25, U25⟩ := id V24
      obtain ⟨T25, h25, X25, e25, W25, st25⟩ := stD X24 hx hZ e24 Ar25 (j := (2 : Int32)) (inb_of S25 ⟨by decide, by decide⟩) (g := (mkF m 84 #[.val (.int q1), .val (.int q2), .val (.int q3), .val (.int q4), .val (.int q5), .val (.int (2 : Int32)), .val (.int k1), .val (.int k2), .val (.int k3), .val (.int k4), .val (.ref b22), .unset, .unset, .unset, .unset, .unset] [(.double (own_X k3)), (.int (2 : Int32)), (.ref b22)])) rfl rfl (hb hby at_84)
      refine own_by st25 ?_
      have V25 : Arv Z h25 b22 k22 .double (4 : Int32) [(.double (own_X k1)), (.double (own_X k2)), (.double (own_X k3)), (.double (FP.l2d 0))] (.double (FP.l2d 0)) := Arv.set Ar25 q25 S25 M25 H25 U25 rfl W25 2 rfl (Nat.le_of_ble_eq_true rfl)
      have Z25 := Nat.le_trans Z24 (Keep.of_wr W25).1
      have N25 := Fr.snoc X25 N24 gn_b22
      show own_Go p.tables e below K (T25.setTop (mkF m 85 #[.val (.int q1), .val (.int q2), .val (.int q3), .val (.int q4), .val (.int q5), .val (.int (2 : Int32)), .val (.int k1), .val (.int k2), .val (.int k3), .val (.int k4), .val (.ref b22), .unset, .unset, .unset, .unset, .unset] []))
      refine own_by (fun t k => XS.aload X25.here hx rfl (hb hby at_85) rfl rfl k) ?_
      show own_Go p.tables e below K (T25.setTop (mkF m 87 #[.val (.int q1), .val (.int q2), .val (.int q3), .val (.int q4), .val (.int q5), .val (.int (2 : Int32)), .val (.int k1), .val (.int k2), .val (.int k3), .val (.int k4), .val (.ref b22), .unset, .unset, .unset, .unset, .unset] [(.ref b22)]))
      refine own_by (fun t k => XS.iconst X25.here hx rfl (hb hby at_87) k) ?_
      show own_Go p.tables e below K (T25.setTop (mkF m 88 #[.val (.int q1), .val (.int q2), .val (.int q3), .val (.int q4), .val (.int q5), .val (.int (2 : Int32)), .val (.int k1), .val (.int k2), .val (.int k3), .val (.int k4), .val (.ref b22), .unset, .unset, .unset, .unset, .unset] [(.int (3 : Int32)), (.ref b22)]))
      refine own_by (fun t k => XS.iload X25.here hx rfl (hb hby at_88) rfl k) ?_
      show own_Go p.tables e below K (T25.setTop (mkF m 90 #[.val (.int q1), .val (.int q2), .val (.int q3), .val (.int q4), .val (.int q5), .val (.int (2 : Int32)), .val (.int k1), .val (.int k2), .val (.int k3), .val (.int k4), .val (.ref b22), .unset, .unset, .unset, .unset, .unset] [(.int k4), (.int (3 : Int32)), (.ref b22)]))
      refine own_by (fun t k => XS.i2dS X25.here hx rfl (hb hby at_90) rfl (i2d_w _) k) ?_
      show own_Go p.tables e below K (T25.setTop (mkF m 91 #[.val (.int q1), .val (.int q2), .val (.int q3), .val (.int q4), .val (.int q5), .val (.int (2 : Int32)), .val (.int k1), .val (.int k2), .val (.int k3), .val (.int k4), .val (.ref b22), .unset, .unset, .unset, .unset, .unset] [(.double (FP.l2d k4.toInt64)), (.int (3 : Int32)), (.ref b22)]))
      refine own_by (fun t k => X25.ldc2DoubleC hx hown (mvT hZ (hw _ (List.mem_of_getElem? (i := 2) rfl))) (g := (mkF m 91 #[.val (.int q1), .val (.int q2), .val (.int q3), .val (.int q4), .val (.int q5), .val (.int (2 : Int32)), .val (.int k1), .val (.int k2), .val (.int k3), .val (.int k4), .val (.ref b22), .unset, .unset, .unset, .unset, .unset] [(.double (FP.l2d k4.toInt64)), (.int (3 : Int32)), (.ref b22)])) rfl (hb hby at_91) _ k) ?_
      show own_Go p.tables e below K (T25.setTop (mkF m 94 #[.val (.int q1), .val (.int q2), .val (.int q3), .val (.int q4), .val (.int q5), .val (.int (2 : Int32)), .val (.int k1), .val (.int k2), .val (.int k3), .val (.int k4), .val (.ref b22), .unset, .unset, .unset, .unset, .unset] [(.double (4620693217682128896 : UInt64)), (.double (FP.l2d k4.toInt64)), (.int (3 : Int32)), (.ref b22)]))
      refine own_by (fun t k => XS.ddivS X25.here hx rfl (hb hby at_94) rfl (own_fX hk4) rfl k) ?_
      show own_Go p.tables e below K (T25.setTop (mkF m 95 #[.val (.int q1), .val (.int q2), .val (.int q3), .val (.int q4), .val (.int q5), .val (.int (2 : Int32)), .val (.int k1), .val (.int k2), .val (.int k3), .val (.int k4), .val (.ref b22), .unset, .unset, .unset, .unset, .unset] [(.double (own_X k4)), (.int (3 : Int32)), (.ref b22)]))
      obtain ⟨cl26, Ar26, q26, S26, M26, H26, U26⟩ := id V25
      obtain ⟨T26, h26, X26, e26, W26, st26⟩ := stD X25 hx hZ e25 Ar26 (j := (3 : Int32)) (inb_of S26 ⟨by decide, by decide⟩) (g := (mkF m 95 #[.val (.int q1), .val (.int q2), .val (.int q3), .val (.int q4), .val (.int q5), .val (.int (2 : Int32)), .val (.int k1), .val (.int k2), .val (.int k3), .val (.int k4), .val (.ref b22), .unset, .unset, .unset, .unset, .unset] [(.double (own_X k4)), (.int (3 : Int32)), (.ref b22)])) rfl rfl (hb hby at_95)
      refine own_by st26 ?_
      have V26 : Arv Z h26 b22 k22 .double (4 : Int32) [(.double (own_X k1)), (.double (own_X k2)), (.double (own_X k3)), (.double (own_X k4))] (.double (FP.l2d 0)) := Arv.set Ar26 q26 S26 M26 H26 U26 rfl W26 3 rfl (Nat.le_of_ble_eq_true rfl)
      have Z26 := Nat.le_trans Z25 (Keep.of_wr W26).1
      have N26 := Fr.snoc X26 N25 gn_b22
      show own_Go p.tables e below K (T26.setTop (mkF m 96 #[.val (.int q1), .val (.int q2), .val (.int q3), .val (.int q4), .val (.int q5), .val (.int (2 : Int32)), .val (.int k1), .val (.int k2), .val (.int k3), .val (.int k4), .val (.ref b22), .unset, .unset, .unset, .unset, .unset] []))
      refine own_by (fun t k => XS.iconst X26.here hx rfl (hb hby at_96) k) ?_
      show own_Go p.tables e below K (T26.setTop (mkF m 97 #[.val (.int q1), .val (.int q2), .val (.int q3), .val (.int q4), .val (.int q5), .val (.int (2 : Int32)), .val (.int k1), .val (.int k2), .val (.int k3), .val (.int k4), .val (.ref b22), .unset, .unset, .unset, .unset, .unset] [(.int (0 : Int32))]))
      refine own_by (fun t k => XS.istore X26.here hx rfl (hb hby at_97) rfl (l' := #[.val (.int q1), .val (.int q2), .val (.int q3), .val (.int q4), .val (.int q5), .val (.int (2 : Int32)), .val (.int k1), .val (.int k2), .val (.int k3), .val (.int k4), .val (.ref b22), .val (.int (0 : Int32)), .unset, .unset, .unset, .unset]) rfl k) ?_
      show own_Go p.tables e below K (T26.setTop (mkF m 99 #[.val (.int q1), .val (.int q2), .val (.int q3), .val (.int q4), .val (.int q5), .val (.int (2 : Int32)), .val (.int k1), .val (.int k2), .val (.int k3), .val (.int k4), .val (.ref b22), .val (.int (0 : Int32)), .unset, .unset, .unset, .unset] []))
      refine own_by (fun t k => XS.iload X26.here hx rfl (hb hby at_99) rfl k) ?_
      show own_Go p.tables e below K (T26.setTop (mkF m 101 #[.val (.int q1), .val (.int q2), .val (.int q3), .val (.int q4), .val (.int q5), .val (.int (2 : Int32)), .val (.int k1), .val (.int k2), .val (.int k3), .val (.int k4), .val (.ref b22), .val (.int (0 : Int32)), .unset, .unset, .unset, .unset] [(.int (2 : Int32))]))
      refine own_by (fun t k => XS.iconst X26.here hx rfl (hb hby at_101) k) ?_
      show own_Go p.tables e below K (T26.setTop (mkF m 102 #[.val (.int q1), .val (.int q2), .val (.int q3), .val (.int q4), .val (.int q5), .val (.int (2 : Int32)), .val (.int k1), .val (.int k2), .val (.int k3), .val (.int k4), .val (.ref b22), .val (.int (0 : Int32)), .unset, .unset, .unset, .unset] [(.int (1 : Int32)), (.int (2 : Int32))]))
      have hc102 : (1 : Int32) < (2 : Int32) := by decide
      refine own_by (fun t k => XS.icmpYes X26.here hx rfl (pc0 := 102) (pc' := 115) rfl (hb hby at_102) rfl (tlt hc102).2.2.1 (by decide) (by decide) k) ?_
      show own_Go p.tables e below K (T26.setTop (mkF m 115 #[.val (.int q1), .val (.int q2), .val (.int q3), .val (.int q4), .val (.int q5), .val (.int (2 : Int32)), .val (.int k1), .val (.int k2), .val (.int k3), .val (.int k4), .val (.ref b22), .val (.int (0 : Int32)), .unset, .unset, .unset, .unset] []))
      refine own_by (fun t k => XS.iload X26.here hx rfl (hb hby at_115) rfl k) ?_
      show own_Go p.tables e below K (T26.setTop (mkF m 117 #[.val (.int q1), .val (.int q2), .val (.int q3), .val (.int q4), .val (.int q5), .val (.int (2 : Int32)), .val (.int k1), .val (.int k2), .val (.int k3), .val (.int k4), .val (.ref b22), .val (.int (0 : Int32)), .unset, .unset, .unset, .unset] [(.int (2 : Int32))]))
      refine own_by (fun t k => XS.iconst X26.here hx rfl (hb hby at_117) k) ?_
      show own_Go p.tables e below K (T26.setTop (mkF m 118 #[.val (.int q1), .val (.int q2), .val (.int q3), .val (.int q4), .val (.int q5), .val (.int (2 : Int32)), .val (.int k1), .val (.int k2), .val (.int k3), .val (.int k4), .val (.ref b22), .val (.int (0 : Int32)), .unset, .unset, .unset, .unset] [(.int (2 : Int32)), (.int (2 : Int32))]))
      have hc118 : ¬ ((2 : Int32) < (2 : Int32)) := by decide
      refine own_by (fun t k => XS.icmpNo X26.here hx rfl (hb hby at_118) rfl (flt hc118).2.2.1 k) ?_
      show own_Go p.tables e below K (T26.setTop (mkF m 121 #[.val (.int q1), .val (.int q2), .val (.int q3), .val (.int q4), .val (.int q5), .val (.int (2 : Int32)), .val (.int k1), .val (.int k2), .val (.int k3), .val (.int k4), .val (.ref b22), .val (.int (0 : Int32)), .unset, .unset, .unset, .unset] []))
      refine own_by (fun t k => XS.iload X26.here hx rfl (hb hby at_121) rfl k) ?_
      show own_Go p.tables e below K (T26.setTop (mkF m 123 #[.val (.int q1), .val (.int q2), .val (.int q3), .val (.int q4), .val (.int q5), .val (.int (2 : Int32)), .val (.int k1), .val (.int k2), .val (.int k3), .val (.int k4), .val (.ref b22), .val (.int (0 : Int32)), .unset, .unset, .unset, .unset] [(.int (0 : Int32))]))
      refine own_by (fun t k => XS.iload X26.here hx rfl (hb hby at_123) rfl k) ?_
      show own_Go p.tables e below K (T26.setTop (mkF m 125 #[.val (.int q1), .val (.int q2), .val (.int q3), .val (.int q4), .val (.int q5), .val (.int (2 : Int32)), .val (.int k1), .val (.int k2), .val (.int k3), .val (.int k4), .val (.ref b22), .val (.int (0 : Int32)), .unset, .unset, .unset, .unset] [(.int k2), (.int (0 : Int32))]))
      obtain ⟨_, _, ⟨T27, L27, k27, n27⟩, -, X27, ⟨Lc27, hQ27, l27, y27, z27⟩, st27⟩ := Jvm.LawKit.callS X26 hx (y := (⟨"com/example/manyfront/manyfront/problems/DtlzSphereDistancePinLaw", "sq", "(I)I"⟩ : MethodName)) hown (mvT hZ (hw _ (List.mem_of_getElem? (i := 3) rfl))) (mvT hZ (hw _ (List.mem_of_getElem? (i := 4) rfl))) (mvT hZ (hw _ (List.mem_of_getElem? (i := 5) rfl))) (mvT hZ (hw _ (List.mem_of_getElem? (i := 6) rfl))) (by decide) (backOf (W := 1) (own_rmsq l Z aw hw [] k2 h26 n0 Z26) hZ (hw _ (List.mem_of_getElem? (i := 6) rfl)) (hw _ (List.mem_of_getElem? (i := 5) rfl)) (by decide) (by decide)) (g := (mkF m 125 #[.val (.int q1), .val (.int q2), .val (.int q3), .val (.int q4), .val (.int q5), .val (.int (2 : Int32)), .val (.int k1), .val (.int k2), .val (.int k3), .val (.int k4), .val (.ref b22), .val (.int (0 : Int32)), .unset, .unset, .unset, .unset] [(.int k2), (.int (0 : Int32))])) rfl (by rw [hml]; rfl) (argsL := [(.int k2)]) (rest := [(.int (0 : Int32))]) (lenOf own_pd0 rfl) rfl (by show 2 * 0 + _ ≤ _; exact Nat.le_of_eq rfl) (hb hby at_125) (fun _ _ => ⟨rfl, e26, (by decide : 1 + 0 ≤ _), (by decide : 4 + 0 ≤ _)⟩)
      dsimp only [Pt.U, Pt.locs, Pt.cells, Pt.slots] at X27 l27 y27 z27 st27 hQ27
      subst l27 y27 z27
      obtain ⟨rfl, N27q, e27⟩ := hQ27
      have N27 := Fr.app N26 N27q
      refine own_by st27 ?_
      have hI28 := own_is_add (⟨0, by decide, rfl⟩ : own_is 0 0) (own_fM hk2).2
      show own_Go p.tables e below K (T27.setTop (mkF m 128 #[.val (.int q1), .val (.int q2), .val (.int q3), .val (.int q4), .val (.int q5), .val (.int (2 : Int32)), .val (.int k1), .val (.int k2), .val (.int k3), .val (.int k4), .val (.ref b22), .val (.int (0 : Int32)), .unset, .unset, .unset, .unset] [(.int (own_sq k2)), (.int (0 : Int32))]))
      refine own_by (fun t k => XS.iadd X27.here hx rfl (hb hby at_128) rfl k) ?_
      show own_Go p.tables e below K (T27.setTop (mkF m 129 #[.val (.int q1), .val (.int q2), .val (.int q3), .val (.int q4), .val (.int q5), .val (.int (2 : Int32)), .val (.int k1), .val (.int k2), .val (.int k3), .val (.int k4), .val (.ref b22), .val (.int (0 : Int32)), .unset, .unset, .unset, .unset] [(.int ((0 : Int32) + (own_sq k2)))]))
      refine own_by (fun t k => XS.istore X27.here hx rfl (hb hby at_129) rfl (l' := #[.val (.int q1), .val (.int q2), .val (.int q3), .val (.int q4), .val (.int q5), .val (.int (2 : Int32)), .val (.int k1), .val (.int k2), .val (.int k3), .val (.int k4), .val (.ref b22), .val (.int ((0 : Int32) + (own_sq k2))), .unset, .unset, .unset, .unset]) rfl k) ?_
      show own_Go p.tables e below K (T27.setTop (mkF m 131 #[.val (.int q1), .val (.int q2), .val (.int q3), .val (.int q4), .val (.int q5), .val (.int (2 : Int32)), .val (.int k1), .val (.int k2), .val (.int k3), .val (.int k4), .val (.ref b22), .val (.int ((0 : Int32) + (own_sq k2))), .unset, .unset, .unset, .unset] []))
      refine own_by (fun t k => XS.iload X27.here hx rfl (hb hby at_131) rfl k) ?_
      show own_Go p.tables e below K (T27.setTop (mkF m 133 #[.val (.int q1), .val (.int q2), .val (.int q3), .val (.int q4), .val (.int q5), .val (.int (2 : Int32)), .val (.int k1), .val (.int k2), .val (.int k3), .val (.int k4), .val (.ref b22), .val (.int ((0 : Int32) + (own_sq k2))), .unset, .unset, .unset, .unset] [(.int (2 : Int32))]))
      refine own_by (fun t k => XS.iconst X27.here hx rfl (hb hby at_133) k) ?_
      show own_Go p.tables e below K (T27.setTop (mkF m 134 #[.val (.int q1), .val (.int q2), .val (.int q3), .val (.int q4), .val (.int q5), .val (.int (2 : Int32)), .val (.int k1), .val (.int k2), .val (.int k3), .val (.int k4), .val (.ref b22), .val (.int ((0 : Int32) + (own_sq k2))), .unset, .unset, .unset, .unset] [(.int (3 : Int32)), (.int (2 : Int32))]))
      have hc134 : ¬ ((3 : Int32) < (2 : Int32)) := by decide
      refine own_by (fun t k => XS.icmpNo X27.here hx rfl (hb hby at_134) rfl (flt hc134).2.2.1 k) ?_
      show own_Go p.tables e below K (T27.setTop (mkF m 137 #[.val (.int q1), .val (.int q2), .val (.int q3), .val (.int q4), .val (.int q5), .val (.int (2 : Int32)), .val (.int k1), .val (.int k2), .val (.int k3), .val (.int k4), .val (.ref b22), .val (.int ((0 : Int32) + (own_sq k2))), .unset, .unset, .unset, .unset] []))
      refine own_by (fun t k => XS.iload X27.here hx rfl (hb hby at_137) rfl k) ?_
      show own_Go p.tables e below K (T27.setTop (mkF m 139 #[.val (.int q1), .val (.int q2), .val (.int q3), .val (.int q4), .val (.int q5), .val (.int (2 : Int32)), .val (.int k1), .val (.int k2), .val (.int k3), .val (.int k4), .val (.ref b22), .val (.int ((0 : Int32) + (own_sq k2))), .unset, .unset, .unset, .unset] [(.int ((0 : Int32) + (own_sq k2)))]))
      refine own_by (fun t k => XS.iload X27.here hx rfl (hb hby at_139) rfl k) ?_
      show own_Go p.tables e below K (T27.setTop (mkF m 141 #[.val (.int q1), .val (.int q2), .val (.int q3), .val (.int q4), .val (.int q5), .val (.int (2 : Int32)), .val (.int k1), .val (.int k2), .val (.int k3), .val (.int k4), .val (.ref b22), .val (.int ((0 : Int32) + (own_sq k2))), .unset, .unset, .unset, .unset] [(.int k3), (.int ((0 : Int32) + (own_sq k2)))]))
      obtain ⟨_, _, ⟨T29, L29, k29, n29⟩, -, X29, ⟨Lc29, hQ29, l29, y29, z29⟩, st29⟩ := Jvm.LawKit.callS X27 hx (y := (⟨"com/example/manyfront/manyfront/problems/DtlzSphereDistancePinLaw", "sq", "(I)I"⟩ : MethodName)) hown (mvT hZ (hw _ (List.mem_of_getElem? (i := 3) rfl))) (mvT hZ (hw _ (List.mem_of_getElem? (i := 4) rfl))) (mvT hZ (hw _ (List.mem_of_getElem? (i := 5) rfl))) (mvT hZ (hw _ (List.mem_of_getElem? (i := 6) rfl))) (by decide) (backOf (W := 1) (own_rmsq l Z aw hw [] k3 h26 n0 Z26) hZ (hw _ (List.mem_of_getElem? (i := 6) rfl)) (hw _ (List.mem_of_getElem? (i := 5) rfl)) (by decide) (by decide)) (g := (mkF m 141 #[.val (.int q1), .val (.int q2), .val (.int q3), .val (.int q4), .val (.int q5), .val (.int (2 : Int32)), .val (.int k1), .val (.int k2), .val (.int k3), .val (.int k4), .val (.ref b22), .val (.int ((0 : Int32) + (own_sq k2))), .unset, .unset, .unset, .unset] [(.int k3), (.int ((0 : Int32) + (own_sq k2)))])) rfl (by rw [hml]; rfl) (argsL := [(.int k3)]) (rest := [(.int ((0 : Int32) + (own_sq k2)))]) (lenOf own_pd0 rfl) rfl (by show 2 * 0 + _ ≤ _; exact Nat.le_of_eq rfl) (hb hby at_141) (fun _ _ => ⟨rfl, e27, (by decide : 1 + 0 ≤ _), (by decide : 4 + 0 ≤ _)⟩)
      dsimp only [Pt.U, Pt.locs, Pt.cells, Pt.slots] at X29 l29 y29 z29 st29 hQ29
      subst l29 y29 z29
      obtain ⟨rfl, N29q, e29⟩ := hQ29
      have N29 := Fr.app N27 N29q
      refine own_by st29 ?_
      have hI30 := own_is_add hI28 (own_fM hk3).2
      show own_Go p.tables e below K (T29.setTop (mkF m 144 #[.val (.int q1), .val (.int q2), .val (.int q3), .val (.int q4), .val (.int q5), .val (.int (2 : Int32)), .val (.int k1), .val (.int k2), .val (.int k3), .val (.int k4), .val (.ref b22), .val (.int ((0 : Int32) + (own_sq k2))), .unset, .unset, .unset, .unset] [(.int (own_sq k3)), (.int ((0 : Int32) + (own_sq k2)))]))
      refine own_by (fun t k => XS.iadd X29.here hx rfl (hb hby at_144) rfl k) ?_
      show own_Go p.tables e below K (T29.setTop (mkF m 145 #[.val (.int q1), .val (.int q2), .val (.int q3), .val (.int q4), .val (.int q5), .val (.int (2 : Int32)), .val (.int k1), .val (.int k2), .val (.int k3), .val (.int k4), .val (.ref b22), .val (.int ((0 : Int32) + (own_sq k2))), .unset, .unset, .unset, .unset] [(.int (((0 : Int32) + (own_sq k2)) + (own_sq k3)))]))
      refine own_by (fun t k => XS.istore X29.here hx rfl (hb hby at_145) rfl (l' := #[.val (.int q1), .val (.int q2), .val (.int q3), .val (.int q4), .val (.int q5), .val (.int (2 : Int32)), .val (.int k1), .val (.int k2), .val (.int k3), .val (.int k4), .val (.ref b22), .val (.int (((0 : Int32) + (own_sq k2)) + (own_sq k3))), .unset, .unset, .unset, .unset]) rfl k) ?_
      show own_Go p.tables e below K (T29.setTop (mkF m 147 #[.val (.int q1), .val (.int q2), .val (.int q3), .val (.int q4), .val (.int q5), .val (.int (2 : Int32)), .val (.int k1), .val (.int k2), .val (.int k3), .val (.int k4), .val (.ref b22), .val (.int (((0 : Int32) + (own_sq k2)) + (own_sq k3))), .unset, .unset, .unset, .unset] []))
      refine own_by (fun t k => XS.iload X29.here hx rfl (hb hby at_147) rfl k) ?_
      show own_Go p.tables e below K (T29.setTop (mkF m 149 #[.val (.int q1), .val (.int q2), .val (.int q3), .val (.int q4), .val (.int q5), .val (.int (2 : Int32)), .val (.int k1), .val (.int k2), .val (.int k3), .val (.int k4), .val (.ref b22), .val (.int (((0 : Int32) + (own_sq k2)) + (own_sq k3))), .unset, .unset, .unset, .unset] [(.int (2 : Int32))]))
      refine own_by (fun t k => XS.iconst X29.here hx rfl (hb hby at_149) k) ?_
      show own_Go p.tables e below K (T29.setTop (mkF m 150 #[.val (.int q1), .val (.int q2), .val (.int q3), .val (.int q4), .val (.int q5), .val (.int (2 : Int32)), .val (.int k1), .val (.int k2), .val (.int k3), .val (.int k4), .val (.ref b22), .val (.int (((0 : Int32) + (own_sq k2)) + (own_sq k3))), .unset, .unset, .unset, .unset] [(.int (4 : Int32)), (.int (2 : Int32))]))
      have hc150 : ¬ ((4 : Int32) < (2 : Int32)) := by decide
      refine own_by (fun t k => XS.icmpNo X29.here hx rfl (hb hby at_150) rfl (flt hc150).2.2.1 k) ?_
      show own_Go p.tables e below K (T29.setTop (mkF m 153 #[.val (.int q1), .val (.int q2), .val (.int q3), .val (.int q4), .val (.int q5), .val (.int (2 : Int32)), .val (.int k1), .val (.int k2), .val (.int k3), .val (.int k4), .val (.ref b22), .val (.int (((0 : Int32) + (own_sq k2)) + (own_sq k3))), .unset, .unset, .unset, .unset] []))
      refine own_by (fun t k => XS.iload X29.here hx rfl (hb hby at_153) rfl k) ?_
      show own_Go p.tables e below K (T29.setTop (mkF m 155 #[.val (.int q1), .val (.int q2), .val (.int q3), .val (.int q4), .val (.int q5), .val (.int (2 : Int32)), .val (.int k1), .val (.int k2), .val (.int k3), .val (.int k4), .val (.ref b22), .val (.int (((0 : Int32) + (own_sq k2)) + (own_sq k3))), .unset, .unset, .unset, .unset] [(.int (((0 : Int32) + (own_sq k2)) + (own_sq k3)))]))
      refine own_by (fun t k => XS.iload X29.here hx rfl (hb hby at_155) rfl k) ?_
      show own_Go p.tables e below K (T29.setTop (mkF m 157 #[.val (.int q1), .val (.int q2), .val (.int q3), .val (.int q4), .val (.int q5), .val (.int (2 : Int32)), .val (.int k1), .val (.int k2), .val (.int k3), .val (.int k4), .val (.ref b22), .val (.int (((0 : Int32) + (own_sq k2)) + (own_sq k3))), .unset, .unset, .unset, .unset] [(.int k4), (.int (((0 : Int32) + (own_sq k2)) + (own_sq k3)))]))
      obtain ⟨_, _, ⟨T31, L31, k31, n31⟩, -, X31, ⟨Lc31, hQ31, l31, y31, z31⟩, st31⟩ := Jvm.LawKit.callS X29 hx (y := (⟨"com/example/manyfront/manyfront/problems/DtlzSphereDistancePinLaw", "sq", "(I)I"⟩ : MethodName)) hown (mvT hZ (hw _ (List.mem_of_getElem? (i := 3) rfl))) (mvT hZ (hw _ (List.mem_of_getElem? (i := 4) rfl))) (mvT hZ (hw _ (List.mem_of_getElem? (i := 5) rfl))) (mvT hZ (hw _ (List.mem_of_getElem? (i := 6) rfl))) (by decide) (backOf (W := 1) (own_rmsq l Z aw hw [] k4 h26 n0 Z26) hZ (hw _ (List.mem_of_getElem? (i := 6) rfl)) (hw _ (List.mem_of_getElem? (i := 5) rfl)) (by decide) (by decide)) (g := (mkF m 157 #[.val (.int q1), .val (.int q2), .val (.int q3), .val (.int q4), .val (.int q5), .val (.int (2 : Int32)), .val (.int k1), .val (.int k2), .val (.int k3), .val (.int k4), .val (.ref b22), .val (.int (((0 : Int32) + (own_sq k2)) + (own_sq k3))), .unset, .unset, .unset, .unset] [(.int k4), (.int (((0 : Int32) + (own_sq k2)) + (own_sq k3)))])) rfl (by rw [hml]; rfl) (argsL := [(.int k4)]) (rest := [(.int (((0 : Int32) + (own_sq k2)) + (own_sq k3)))]) (lenOf own_pd0 rfl) rfl (by show 2 * 0 + _ ≤ _; exact Nat.le_of_eq rfl) (hb hby at_157) (fun _ _ => ⟨rfl, e29, (by decide : 1 + 0 ≤ _), (by decide : 4 + 0 ≤ _)⟩)
      dsimp only [Pt.U, Pt.locs, Pt.cells, Pt.slots] at X31 l31 y31 z31 st31 hQ31
      subst l31 y31 z31
      obtain ⟨rfl, N31q, e31⟩ := hQ31
      have N31 := Fr.app N29 N31q
      refine own_by st31 ?_
      have hI32 := own_is_add hI30 (own_fM hk4).2
      show own_Go p.tables e below K (T31.setTop (mkF m 160 #[.val (.int q1), .val (.int q2), .val (.int q3), .val (.int q4), .val (.int q5), .val (.int (2 : Int32)), .val (.int k1), .val (.int k2), .val (.int k3), .val (.int k4), .val (.ref b22), .val (.int (((0 : Int32) + (own_sq k2)) + (own_sq k3))), .unset, .unset, .unset, .unset] [(.int (own_sq k4)), (.int (((0 : Int32) + (own_sq k2)) + (own_sq k3)))]))
      refine own_by (fun t k => XS.iadd X31.here hx rfl (hb hby at_160) rfl k) ?_
      show own_Go p.tables e below K (T31.setTop (mkF m 161 #[.val (.int q1), .val (.int q2), .val (.int q3), .val (.int q4), .val (.int q5), .val (.int (2 : Int32)), .val (.int k1), .val (.int k2), .val (.int k3), .val (.int k4), .val (.ref b22), .val (.int (((0 : Int32) + (own_sq k2)) + (own_sq k3))), .unset, .unset, .unset, .unset] [(.int ((((0 : Int32) + (own_sq k2)) + (own_sq k3)) + (own_sq k4)))]))
      refine own_by (fun t k => XS.istore X31.here hx rfl (hb hby at_161) rfl (l' := #[.val (.int q1), .val (.int q2), .val (.int q3), .val (.int q4), .val (.int q5), .val (.int (2 : Int32)), .val (.int k1), .val (.int k2), .val (.int k3), .val (.int k4), .val (.ref b22), .val (.int ((((0 : Int32) + (own_sq k2)) + (own_sq k3)) + (own_sq k4))), .unset, .unset, .unset, .unset]) rfl k) ?_
      show own_Go p.tables e below K (T31.setTop (mkF m 163 #[.val (.int q1), .val (.int q2), .val (.int q3), .val (.int q4), .val (.int q5), .val (.int (2 : Int32)), .val (.int k1), .val (.int k2), .val (.int k3), .val (.int k4), .val (.ref b22), .val (.int ((((0 : Int32) + (own_sq k2)) + (own_sq k3)) + (own_sq k4))), .unset, .unset, .unset, .unset] []))
      refine own_by (fun t k => XS.iload X31.here hx rfl (hb hby at_163) rfl k) ?_
      show own_Go p.tables e below K (T31.setTop (mkF m 165 #[.val (.int q1), .val (.int q2), .val (.int q3), .val (.int q4), .val (.int q5), .val (.int (2 : Int32)), .val (.int k1), .val (.int k2), .val (.int k3), .val (.int k4), .val (.ref b22), .val (.int ((((0 : Int32) + (own_sq k2)) + (own_sq k3)) + (own_sq k4))), .unset, .unset, .unset, .unset] [(.int ((((0 : Int32) + (own_sq k2)) + (own_sq k3)) + (own_sq k4)))]))
      refine own_by (fun t k => XS.i2dS X31.here hx rfl (hb hby at_165) rfl (i2d_w _) k) ?_
      show own_Go p.tables e below K (T31.setTop (mkF m 166 #[.val (.int q1), .val (.int q2), .val (.int q3), .val (.int q4), .val (.int q5), .val (.int (2 : Int32)), .val (.int k1), .val (.int k2), .val (.int k3), .val (.int k4), .val (.ref b22), .val (.int ((((0 : Int32) + (own_sq k2)) + (own_sq k3)) + (own_sq k4))), .unset, .unset, .unset, .unset] [(.double (FP.l2d ((((0 : Int32) + (own_sq k2)) + (own_sq k3)) + (own_sq k4)).toInt64))]))
      refine own_by (fun t k => X31.ldc2DoubleC hx hown (mvT hZ (hw _ (List.mem_of_getElem? (i := 7) rfl))) (g := (mkF m 166 #[.val (.int q1), .val (.int q2), .val (.int q3), .val (.int q4), .val (.int q5), .val (.int (2 : Int32)), .val (.int k1), .val (.int k2), .val (.int k3), .val (.int k4), .val (.ref b22), .val (.int ((((0 : Int32) + (own_sq k2)) + (own_sq k3)) + (own_sq k4))), .unset, .unset, .unset, .unset] [(.double (FP.l2d ((((0 : Int32) + (own_sq k2)) + (own_sq k3)) + (own_sq k4)).toInt64))])) rfl (hb hby at_166) _ k) ?_
      show own_Go p.tables e below K (T31.setTop (mkF m 169 #[.val (.int q1), .val (.int q2), .val (.int q3), .val (.int q4), .val (.int q5), .val (.int (2 : Int32)), .val (.int k1), .val (.int k2), .val (.int k3), .val (.int k4), .val (.ref b22), .val (.int ((((0 : Int32) + (own_sq k2)) + (own_sq k3)) + (own_sq k4))), .unset, .unset, .unset, .unset] [(.double (4634204016564240384 : UInt64)), (.double (FP.l2d ((((0 : Int32) + (own_sq k2)) + (own_sq k3)) + (own_sq k4)).toInt64))]))
      refine own_by (fun t k => XS.ddivS X31.here hx rfl (hb hby at_169) rfl (own_nT (own_up hI32 (by decide))) rfl k) ?_
      show own_Go p.tables e below K (T31.setTop (mkF m 170 #[.val (.int q1), .val (.int q2), .val (.int q3), .val (.int q4), .val (.int q5), .val (.int (2 : Int32)), .val (.int k1), .val (.int k2), .val (.int k3), .val (.int k4), .val (.ref b22), .val (.int ((((0 : Int32) + (own_sq k2)) + (own_sq k3)) + (own_sq k4))), .unset, .unset, .unset, .unset] [(.double (own_T ((((0 : Int32) + own_sq k2) + own_sq k3) + own_sq k4)))]))
      refine own_by (fun t k => XS.dstore X31.here hx rfl (hb hby at_170) rfl (l' := #[.val (.int q1), .val (.int q2), .val (.int q3), .val (.int q4), .val (.int q5), .val (.int (2 : Int32)), .val (.int k1), .val (.int k2), .val (.int k3), .val (.int k4), .val (.ref b22), .val (.int ((((0 : Int32) + (own_sq k2)) + (own_sq k3)) + (own_sq k4))), .val (.double (own_T ((((0 : Int32) + own_sq k2) + own_sq k3) + own_sq k4))), .second, .unset, .unset]) rfl k) ?_
      show own_Go p.tables e below K (T31.setTop (mkF m 172 #[.val (.int q1), .val (.int q2), .val (.int q3), .val (.int q4), .val (.int q5), .val (.int (2 : Int32)), .val (.int k1), .val (.int k2), .val (.int k3), .val (.int k4), .val (.ref b22), .val (.int ((((0 : Int32) + (own_sq k2)) + (own_sq k3)) + (own_sq k4))), .val (.double (own_T ((((0 : Int32) + own_sq k2) + own_sq k3) + own_sq k4))), .second, .unset, .unset] []))
      refine own_by (fun t k => XS.aload X31.here hx rfl (hb hby at_172) rfl rfl k) ?_
      show own_Go p.tables e below K (T31.setTop (mkF m 174 #[.val (.int q1), .val (.int q2), .val (.int q3), .val (.int q4), .val (.int q5), .val (.int (2 : Int32)), .val (.int k1), .val (.int k2), .val (.int k3), .val (.int k4), .val (.ref b22), .val (.int ((((0 : Int32) + (own_sq k2)) + (own_sq k3)) + (own_sq k4))), .val (.double (own_T ((((0 : Int32) + own_sq k2) + own_sq k3) + own_sq k4))), .second, .unset, .unset] [(.ref b22)]))
      refine own_by (fun t k => XS.iload X31.here hx rfl (hb hby at_174) rfl k) ?_
      show own_Go p.tables e below K (T31.setTop (mkF m 176 #[.val (.int q1), .val (.int q2), .val (.int q3), .val (.int q4), .val (.int q5), .val (.int (2 : Int32)), .val (.int k1), .val (.int k2), .val (.int k3), .val (.int k4), .val (.ref b22), .val (.int ((((0 : Int32) + (own_sq k2)) + (own_sq k3)) + (own_sq k4))), .val (.double (own_T ((((0 : Int32) + own_sq k2) + own_sq k3) + own_sq k4))), .second, .unset, .unset] [(.int (2 : Int32)), (.ref b22)]))
      obtain ⟨_, _, ⟨T33, L33, k33, n33⟩, -, X33, ⟨Lc33, hQ33, l33, y33, z33⟩, st33⟩ := Jvm.LawKit.callS X31 hx (y := (⟨"com/example/manyfront/manyfront/problems/Dtlz", "sphereDistance", "([DI)D"⟩ : MethodName)) hown (mvT hZ (hw _ (List.mem_of_getElem? (i := 8) rfl))) (mvT hZ (hw _ (List.mem_of_getElem? (i := 9) rfl))) (mvT hZ (hw _ (List.mem_of_getElem? (i := 10) rfl))) (mvT hZ (hw _ (List.mem_of_getElem? (i := 11) rfl))) (by decide) (backOf (W := 0) (own_rmsd2 l Z aw hw [] b22 _ k1 k2 k3 k4 h26 n0 Z26 V26 hk1 hk2 hk3 hk4) hZ (hw _ (List.mem_of_getElem? (i := 11) rfl)) (hw _ (List.mem_of_getElem? (i := 10) rfl)) (by decide) (by decide)) (g := (mkF m 176 #[.val (.int q1), .val (.int q2), .val (.int q3), .val (.int q4), .val (.int q5), .val (.int (2 : Int32)), .val (.int k1), .val (.int k2), .val (.int k3), .val (.int k4), .val (.ref b22), .val (.int ((((0 : Int32) + (own_sq k2)) + (own_sq k3)) + (own_sq k4))), .val (.double (own_T ((((0 : Int32) + own_sq k2) + own_sq k3) + own_sq k4))), .second, .unset, .unset] [(.int (2 : Int32)), (.ref b22)])) rfl (by rw [hml]; rfl) (argsL := [(.ref b22), (.int (2 : Int32))]) (rest := []) (lenOf own_pd1 rfl) rfl (by show 2 * 0 + _ ≤ _; exact Nat.le_of_eq rfl) (hb hby at_176) (fun _ _ => ⟨rfl, e31, (by decide : 1 + 0 ≤ _), (by decide : 4 + 0 ≤ _)⟩)
      dsimp only [Pt.U, Pt.locs, Pt.cells, Pt.slots] at X33 l33 y33 z33 st33 hQ33
      subst l33 y33 z33
      obtain ⟨rfl, N33q, e33⟩ := hQ33
      have N33 := Fr.app N31 N33q
      refine own_by st33 ?_
      show own_Go p.tables e below K (T33.setTop (mkF m 179 #[.val (.int q1), .val (.int q2), .val (.int q3), .val (.int q4), .val (.int q5), .val (.int (2 : Int32)), .val (.int k1), .val (.int k2), .val (.int k3), .val (.int k4), .val (.ref b22), .val (.int ((((0 : Int32) + (own_sq k2)) + (own_sq k3)) + (own_sq k4))), .val (.double (own_T ((((0 : Int32) + own_sq k2) + own_sq k3) + own_sq k4))), .second, .unset, .unset] [(.double (own_T ((((0 : Int32) + own_sq k2) + own_sq k3) + own_sq k4)))]))
      refine own_by (fun t k => XS.dstore X33.here hx rfl (hb hby at_179) rfl (l' := #[.val (.int q1), .val (.int q2), .val (.int q3), .val (.int q4), .val (.int q5), .val (.int (2 : Int32)), .val (.int k1), .val (.int k2), .val (.int k3), .val (.int k4), .val (.ref b22), .val (.int ((((0 : Int32) + (own_sq k2)) + (own_sq k3)) + (own_sq k4))), .val (.double (own_T ((((0 : Int32) + own_sq k2) + own_sq k3) + own_sq k4))), .second, .val (.double (own_T ((((0 : Int32) + own_sq k2) + own_sq k3) + own_sq k4))), .second]) rfl k) ?_
      show own_Go p.tables e below K (T33.setTop (mkF m 181 #[.val (.int q1), .val (.int q2), .val (.int q3), .val (.int q4), .val (.int q5), .val (.int (2 : Int32)), .val (.int k1), .val (.int k2), .val (.int k3), .val (.int k4), .val (.ref b22), .val (.int ((((0 : Int32) + (own_sq k2)) + (own_sq k3)) + (own_sq k4))), .val (.double (own_T ((((0 : Int32) + own_sq k2) + own_sq k3) + own_sq k4))), .second, .val (.double (own_T ((((0 : Int32) + own_sq k2) + own_sq k3) + own_sq k4))), .second] []))
      refine own_by (fun t k => XS.dload X33.here hx rfl (hb hby at_181) rfl k) ?_
      show own_Go p.tables e below K (T33.setTop (mkF m 183 #[.val (.int q1), .val (.int q2), .val (.int q3), .val (.int q4), .val (.int q5), .val (.int (2 : Int32)), .val (.int k1), .val (.int k2), .val (.int k3), .val (.int k4), .val (.ref b22), .val (.int ((((0 : Int32) + (own_sq k2)) + (own_sq k3)) + (own_sq k4))), .val (.double (own_T ((((0 : Int32) + own_sq k2) + own_sq k3) + own_sq k4))), .second, .val (.double (own_T ((((0 : Int32) + own_sq k2) + own_sq k3) + own_sq k4))), .second] [(.double (own_T ((((0 : Int32) + own_sq k2) + own_sq k3) + own_sq k4)))]))
      refine own_by (fun t k => XS.dload X33.here hx rfl (hb hby at_183) rfl k) ?_
      show own_Go p.tables e below K (T33.setTop (mkF m 185 #[.val (.int q1), .val (.int q2), .val (.int q3), .val (.int q4), .val (.int q5), .val (.int (2 : Int32)), .val (.int k1), .val (.int k2), .val (.int k3), .val (.int k4), .val (.ref b22), .val (.int ((((0 : Int32) + (own_sq k2)) + (own_sq k3)) + (own_sq k4))), .val (.double (own_T ((((0 : Int32) + own_sq k2) + own_sq k3) + own_sq k4))), .second, .val (.double (own_T ((((0 : Int32) + own_sq k2) + own_sq k3) + own_sq k4))), .second] [(.double (own_T ((((0 : Int32) + own_sq k2) + own_sq k3) + own_sq k4))), (.double (own_T ((((0 : Int32) + own_sq k2) + own_sq k3) + own_sq k4)))]))
      refine own_by (fun t k => XS.dcmpS X33.here hx rfl (hb hby at_185) rfl (dcmpV_self (own_nT (own_up hI32 (by decide))) _) k) ?_
      show own_Go p.tables e below K (T33.setTop (mkF m 186 #[.val (.int q1), .val (.int q2), .val (.int q3), .val (.int q4), .val (.int q5), .val (.int (2 : Int32)), .val (.int k1), .val (.int k2), .val (.int k3), .val (.int k4), .val (.ref b22), .val (.int ((((0 : Int32) + (own_sq k2)) + (own_sq k3)) + (own_sq k4))), .val (.double (own_T ((((0 : Int32) + own_sq k2) + own_sq k3) + own_sq k4))), .second, .val (.double (own_T ((((0 : Int32) + own_sq k2) + own_sq k3) + own_sq k4))), .second] [(.int (0 : Int32))]))
      have hc186 : (0 : Int32) = (0 : Int32) := by decide
      refine own_by (fun t k => XS.ifNo X33.here hx rfl (hb hby at_186) rfl ((if0 _ _).trans (teq hc186).2) k) ?_
      show own_Go p.tables e below K (T33.setTop (mkF m 189 #[.val (.int q1), .val (.int q2), .val (.int q3), .val (.int q4), .val (.int q5), .val (.int (2 : Int32)), .val (.int k1), .val (.int k2), .val (.int k3), .val (.int k4), .val (.ref b22), .val (.int ((((0 : Int32) + (own_sq k2)) + (own_sq k3)) + (own_sq k4))), .val (.double (own_T ((((0 : Int32) + own_sq k2) + own_sq k3) + own_sq k4))), .second, .val (.double (own_T ((((0 : Int32) + own_sq k2) + own_sq k3) + own_sq k4))), .second] []))
      refine own_by (fun t k => XS.iconst X33.here hx rfl (hb hby at_189) k) ?_
      show own_Go p.tables e below K (T33.setTop (mkF m 190 #[.val (.int q1), .val (.int q2), .val (.int q3), .val (.int q4), .val (.int q5), .val (.int (2 : Int32)), .val (.int k1), .val (.int k2), .val (.int k3), .val (.int k4), .val (.ref b22), .val (.int ((((0 : Int32) + (own_sq k2)) + (own_sq k3)) + (own_sq k4))), .val (.double (own_T ((((0 : Int32) + own_sq k2) + own_sq k3) + own_sq k4))), .second, .val (.double (own_T ((((0 : Int32) + own_sq k2) + own_sq k3) + own_sq k4))), .second] [(.int (1 : Int32))]))
      refine own_by (fun t k => XS.goto X33.here hx rfl (pc0 := 190) (pc' := 194) rfl (hb hby at_190) (by decide) (by decide) k) ?_
      show own_Go p.tables e below K (T33.setTop (mkF m 194 #[.val (.int q1), .val (.int q2), .val (.int q3), .val (.int q4), .val (.int q5), .val (.int (2 : Int32)), .val (.int k1), .val (.int k2), .val (.int k3), .val (.int k4), .val (.ref b22), .val (.int ((((0 : Int32) + (own_sq k2)) + (own_sq k3)) + (own_sq k4))), .val (.double (own_T ((((0 : Int32) + own_sq k2) + own_sq k3) + own_sq k4))), .second, .val (.double (own_T ((((0 : Int32) + own_sq k2) + own_sq k3) + own_sq k4))), .second] [(.int (1 : Int32))]))
      exact own_retZ X33 hx (t := .boolean) hret (by simp) (hb hby at_194) (hK (some (.int (1 : Int32))) X33 (fun h => by rw [hret] at h; cases h) (⟨rfl, N33⟩) (by decide) (by decide))
    · show own_Go p.tables e below K (s₁.setTop (mkF m 47 #[.val (.int q1), .val (.int q2), .val (.int q3), .val (.int q4), .val (.int q5), .val (.int (3 : Int32)), .val (.int k1), .val (.int k2), .val (.int k3), .val (.int k4), .unset, .unset, .unset, .unset, .unset, .unset] []))
      refine own_by (fun t k => XS.iconst X0.here hx rfl (hb hby at_47) k) ?_
      show own_Go p.tables e below K (s₁.setTop (mkF m 48 #[.val (.int q1), .val (.int q2), .val (.int q3), .val (.int q4), .val (.int q5), .val (.int (3 : Int32)), .val (.int k1), .val (.int k2), .val (.int k3), .val (.int k4), .unset, .unset, .unset, .unset, .unset, .unset] [(.int (4 : Int32))]))
      obtain ⟨T34, h34, k34, X34, e34, E34, A34, st34⟩ := newP X0 hx hZ (hw _ (List.mem_of_getElem? (i := 1) rfl)) e0 (g := (mkF m 48 #[.val (.int q1), .val (.int q2), .val (.int q3), .val (.int q4), .val (.int q5), .val (.int (3 : Int32)), .val (.int k1), .val (.int k2), .val (.int k3), .val (.int k4), .unset, .unset, .unset, .unset, .unset, .unset] [(.int (4 : Int32))])) rfl (hb hby at_48) rfl (by decide) (cap := 4) (by decide) (by decide) (by decide) (by decide)
      obtain ⟨b34, g34⟩ : ∃ z, z = h0.size := ⟨_, rfl⟩
      rw [← g34] at A34 st34
      refine own_by st34 ?_
      have gn_b34 : n0 ≤ b34 := Nat.le_trans Z0 (Nat.le_of_eq g34.symm)
      have Z34 := Nat.le_trans Z0 E34.1
      have V34 : Arv Z h34 b34 k34 .double (4 : Int32) [(.double (FP.l2d 0)), (.double (FP.l2d 0)), (.double (FP.l2d 0)), (.double (FP.l2d 0))] (.double (FP.l2d 0)) := (Arv.newD A34 (by decide)).pad (pad_rep [] (.double (FP.l2d 0)) 4)
      show own_Go p.tables e below K (T34.setTop (mkF m 50 #[.val (.int q1), .val (.int q2), .val (.int q3), .val (.int q4), .val (.int q5), .val (.int (3 : Int32)), .val (.int k1), .val (.int k2), .val (.int k3), .val (.int k4), .unset, .unset, .unset, .unset, .unset, .unset] [(.ref b34)]))
      refine own_by (fun t k => XS.astore X34.here hx rfl (hb hby at_50) rfl rfl (l' := #[.val (.int q1), .val (.int q2), .val (.int q3), .val (.int q4), .val (.int q5), .val (.int (3 : Int32)), .val (.int k1), .val (.int k2), .val (.int k3), .val (.int k4), .val (.ref b34), .unset, .unset, .unset, .unset, .unset]) rfl k) ?_
      show own_Go p.tables e below K (T34.setTop (mkF m 52 #[.val (.int q1), .val (.int q2), .val (.int q3), .val (.int q4), .val (.int q5), .val (.int (3 : Int32)), .val (.int k1), .val (.int k2), .val (.int k3), .val (.int k4), .val (.ref b34), .unset, .unset, .unset, .unset, .unset] []))
      refine own_by (fun t k => XS.aload X34.here hx rfl (hb hby at_52) rfl rfl k) ?_
      show own_Go p.tables e below K (T34.setTop (mkF m 54 #[.val (.int q1), .val (.int q2), .val (.int q3), .val (.int q4), .val (.int q5), .val (.int (3 : Int32)), .val (.int k1), .val (.int k2), .val (.int k3), .val (.int k4), .val (.ref b34), .unset, .unset, .unset, .unset, .unset] [(.ref b34)]))
      refine own_by (fun t k => XS.iconst X34.here hx rfl (hb hby at_54) k) ?_
      show own_Go p.tables e below K (T34.setTop (mkF m 55 #[.val (.int q1), .val (.int q2), .val (.int q3), .val (.int q4), .val (.int q5), .val (.int (3 : Int32)), .val (.int k1), .val (.int k2), .val (.int k3), .val (.int k4), .val (.ref b34), .unset, .unset, .unset, .unset, .unset] [(.int (0 : Int32)), (.ref b34)]))
      refine own_by (fun t k => XS.iload X34.here hx rfl (hb hby at_55) rfl k) ?_
      show own_Go p.tables e below K (T34.setTop (mkF m 57 #[.val (.int q1), .val (.int q2), .val (.int q3), .val (.int q4), .val (.int q5), .val (.int (3 : Int32)), .val (.int k1), .val (.int k2), .val (.int k3), .val (.int k4), .val (.ref b34), .unset, .unset, .unset, .unset, .unset] [(.int k1), (.int (0 : Int32)), (.ref b34)]))
      refine own_by (fun t k => XS.i2dS X34.here hx rfl (hb hby at_57) rfl (i2d_w _) k) ?_
      show own_Go p.tables e below K (T34.setTop (mkF m 58 #[.val (.int q1), .val (.int q2), .val (.int q3), .val (.int q4), .val (.int q5), .val (.int (3 : Int32)), .val (.int k1), .val (.int k2), .val (.int k3), .val (.int k4), .val (.ref b34), .unset, .unset, .unset, .unset, .unset] [(.double (FP.l2d k1.toInt64)), (.int (0 : Int32)), (.ref b34)]))
      refine own_by (fun t k => X34.ldc2DoubleC hx hown (mvT hZ (hw _ (List.mem_of_getElem? (i := 2) rfl))) (g := (mkF m 58 #[.val (.int q1), .val (.int q2), .val (.int q3), .val (.int q4), .val (.int q5), .val (.int (3 : Int32)), .val (.int k1), .val (.int k2), .val (.int k3), .val (.int k4), .val (.ref b34), .unset, .unset, .unset, .unset, .unset] [(.double (FP.l2d k1.toInt64)), (.int (0 : Int32)), (.ref b34)])) rfl (hb hby at_58) _ k) ?_
      show own_Go p.tables e below K (T34.setTop (mkF m 61 #[.val (.int q1), .val (.int q2), .val (.int q3), .val (.int q4), .val (.int q5), .val (.int (3 : Int32)), .val (.int k1), .val (.int k2), .val (.int k3), .val (.int k4), .val (.ref b34), .unset, .unset, .unset, .unset, .unset] [(.double (4620693217682128896 : UInt64)), (.double (FP.l2d k1.toInt64)), (.int (0 : Int32)), (.ref b34)]))
      refine own_by (fun t k => XS.ddivS X34.here hx rfl (hb hby at_61) rfl (own_fX hk1) rfl k) ?_
      show own_Go p.tables e below K (T34.setTop (mkF m 62 #[.val (.int q1), .val (.int q2), .val (.int q3), .val (.int q4), .val (.int q5), .val (.int (3 : Int32)), .val (.int k1), .val (.int k2), .val (.int k3), .val (.int k4), .val (.ref b34), .unset, .unset, .unset, .unset, .unset] [(.double (own_X k1)), (.int (0 : Int32)), (.ref b34)]))
      obtain ⟨cl35, Ar35, q35, S35, M35, H35, U35⟩ := id V34
      obtain ⟨T35, h35, X35, e35, W35, st35⟩ := stD X34 hx hZ e34 Ar35 (j := (0 : Int32)) (inb_of S35 ⟨by decide, by decide⟩) (g := (mkF m 62 #[.val (.int q1), .val (.int q2), .val (.int q3), .val (.int q4), .val (.int q5), .val (.int (3 : Int32)), .val (.int k1), .val (.int k2), .val (.int k3), .val (.int k4), .val (.ref b34), .unset, .unset, .unset, .unset, .unset] [(.double (own_X k1)), (.int (0 : Int32)), (.ref b34)])) rfl rfl (hb hby at_62)
      refine own_by st35 ?_
      have V35 : Arv Z h35 b34 k34 .double (4 : Int32) [(.double (own_X k1)), (.double (FP.l2d 0)), (.double (FP.l2d 0)), (.double (FP.l2d 0))] (.double (FP.l2d 0)) := Arv.set Ar35 q35 S35 M35 H35 U35 rfl W35 0 rfl (Nat.le_of_ble_eq_true rfl)
      have Z35 := Nat.le_trans Z34 (Keep.of_wr W35).1
      have N35 := Fr.snoc X35 N0 gn_b34
      show own_Go p.tables e below K (T35.setTop (mkF m 63 #[.val (.int q1), .val (.int q2), .val (.int q3), .val (.int q4), .val (.int q5), .val (.int (3 : Int32)), .val (.int k1), .val (.int k2), .val (.int k3), .val (.int k4), .val (.ref b34), .unset, .unset, .unset, .unset, .unset] []))
      refine own_by (fun t k => XS.aload X35.here hx rfl (hb hby at_63) rfl rfl k) ?_
      show own_Go p.tables e below K (T35.setTop (mkF m 65 #[.val (.int q1), .val (.int q2), .val (.int q3), .val (.int q4), .val (.int q5), .val (.int (3 : Int32)), .val (.int k1), .val (.int k2), .val (.int k3), .val (.int k4), .val (.ref b34), .unset, .unset, .unset, .unset, .unset] [(.ref b34)]))
      refine own_by (fun t k => XS.iconst X35.here hx rfl (hb hby at_65) k) ?_
      show own_Go p.tables e below K (T35.setTop (mkF m 66 #[.val (.int q1), .val (.int q2), .val (.int q3), .val (.int q4), .val (.int q5), .val (.int (3 : Int32)), .val (.int k1), .val (.int k2), .val (.int k3), .val (.int k4), .val (.ref b34), .unset, .unset, .unset, .unset, .unset] [(.int (1 : Int32)), (.ref b34)]))
      refine own_by (fun t k => XS.iload X35.here hx rfl (hb hby at_66) rfl k) ?_
      show own_Go p.tables e below K (T35.setTop (mkF m 68 #[.val (.int q1), .val (.int q2), .val (.int q3), .val (.int q4), .val (.int q5), .val (.int (3 : Int32)), .val (.int k1), .val (.int k2), .val (.int k3), .val (.int k4), .val (.ref b34), .unset, .unset, .unset, .unset, .unset] [(.int k2), (.int (1 : Int32)), (.ref b34)]))
      refine own_by (fun t k => XS.i2dS X35.here hx rfl (hb hby at_68) rfl (i2d_w _) k) ?_
      show own_Go p.tables e below K (T35.setTop (mkF m 69 #[.val (.int q1), .val (.int q2), .val (.int q3), .val (.int q4), .val (.int q5), .val (.int (3 : Int32)), .val (.int k1), .val (.int k2), .val (.int k3), .val (.int k4), .val (.ref b34), .unset, .unset, .unset, .unset, .unset] [(.double (FP.l2d k2.toInt64)), (.int (1 : Int32)), (.ref b34)]))
      refine own_by (fun t k => X35.ldc2DoubleC hx hown (mvT hZ (hw _ (List.mem_of_getElem? (i := 2) rfl))) (g := (mkF m 69 #[.val (.int q1), .val (.int q2), .val (.int q3), .val (.int q4), .val (.int q5), .val (.int (3 : Int32)), .val (.int k1), .val (.int k2), .val (.int k3), .val (.int k4), .val (.ref b34), .unset, .unset, .unset, .unset, .unset] [(.double (FP.l2d k2.toInt64)), (.int (1 : Int32)), (.ref b34)])) rfl (hb hby at_69) _ k) ?_
      show own_Go p.tables e below K (T35.setTop (mkF m 72 #[.val (.int q1), .val (.int q2), .val (.int q3), .val (.int q4), .val (.int q5), .val (.int (3 : Int32)), .val (.int k1), .val (.int k2), .val (.int k3), .val (.int k4), .val (.ref b34), .unset, .unset, .unset, .unset, .unset] [(.double (4620693217682128896 : UInt64)), (.double (FP.l2d k2.toInt64)), (.int (1 : Int32)), (.ref b34)]))
      refine own_by (fun t k => XS.ddivS X35.here hx rfl (hb hby at_72) rfl (own_fX hk2) rfl k) ?_
      show own_Go p.tables e below K (T35.setTop (mkF m 73 #[.val (.int q1), .val (.int q2), .val (.int q3), .val (.int q4), .val (.int q5), .val (.int (3 : Int32)), .val (.int k1), .val (.int k2), .val (.int k3), .val (.int k4), .val (.ref b34), .unset, .unset, .unset, .unset, .unset] [(.double (own_X k2)), (.int (1 : Int32)), (.ref b34)]))
      obtain ⟨cl36, Ar36, q36, S36, M36, H36, U36⟩ := id V35
      obtain ⟨T36, h36, X36, e36, W36, st36⟩ := stD X35 hx hZ e35 Ar36 (j := (1 : Int32)) (inb_of S36 ⟨by decide, by decide⟩) (g := (mkF m 73 #[.val (.int q1), .val (.int q2), .val (.int q3), .val (.int q4), .val (.int q5), .val (.int (3 : Int32)), .val (.int k1), .val (.int k2), .val (.int k3), .val (.int k4), .val (.ref b34), .unset, .unset, .unset, .unset, .unset] [(.double (own_X k2)), (.int (1 : Int32)), (.ref b34)])) rfl rfl (hb hby at_73)
      refine own_by st36 ?_
      have V36 : Arv Z h36 b34 k34 .double (4 : Int32) [(.double (own_X k1)), (.double (own_X k2)), (.double (FP.l2d 0)), (.double (FP.l2d 0))] (.double (FP.l2d 0)) := Arv.set Ar36 q36 S36 M36 H36 U36 rfl W36 1 rfl (Nat.le_of_ble_eq_true rfl)
      have Z36 := Nat.le_trans Z35 (Keep.of_wr W36).1
      have N36 := Fr.snoc X36 N35 gn_b34
      show own_Go p.tables e below K (T36.setTop (mkF m 74 #[.val (.int q1), .val (.int q2), .val (.int q3), .val (.int q4), .val (.int q5), .val (.int (3 : Int32)), .val (.int k1), .val (.int k2), .val (.int k3), .val (.int k4), .val (.ref b34), .unset, .unset, .unset, .unset, .unset] []))
      refine own_by (fun t k => XS.aload X36.here hx rfl (hb hby at_74) rfl rfl k) ?_
      show own_Go p.tables e below K (T36.setTop (mkF m 76 #[.val (.int q1), .val (.int q2), .val (.int q3), .val (.int q4), .val (.int q5), .val (.int (3 : Int32)), .val (.int k1), .val (.int k2), .val (.int k3), .val (.int k4), .val (.ref b34), .unset, .unset, .unset, .unset, .unset] [(.ref b34)]))
      refine own_by (fun t k => XS.iconst X36.here hx rfl (hb hby at_76) k) ?_
      show own_Go p.tables e below K (T36.setTop (mkF m 77 #[.val (.int q1), .val (.int q2), .val (.int q3), .val (.int q4), .val (.int q5), .val (.int (3 : Int32)), .val (.int k1), .val (.int k2), .val (.int k3), .val (.int k4), .val (.ref b34), .unset, .unset, .unset, .unset, .unset] [(.int (2 : Int32)), (.ref b34)]))
      refine own_by (fun t k => XS.iload X36.here hx rfl (hb hby at_77) rfl k) ?_
      show own_Go p.tables e below K (T36.setTop (mkF m 79 #[.val (.int q1), .val (.int q2), .val (.int q3), .val (.int q4), .val (.int q5), .val (.int (3 : Int32)), .val (.int k1), .val (.int k2), .val (.int k3), .val (.int k4), .val (.ref b34), .unset, .unset, .unset, .unset, .unset] [(.int k3), (.int (2 : Int32)), (.ref b34)]))
      refine own_by (fun t k => XS.i2dS X36.here hx rfl (hb hby at_79) rfl (i2d_w _) k) ?_
      show own_Go p.tables e below K (T36.setTop (mkF m 80 #[.val (.int q1), .val (.int q2), .val (.int q3), .val (.int q4), .val (.int q5), .val (.int (3 : Int32)), .val (.int k1), .val (.int k2), .val (.int k3), .val (.int k4), .val (.ref b34), .unset, .unset, .unset, .unset, .unset] [(.double (FP.l2d k3.toInt64)), (.int (2 : Int32)), (.ref b34)]))
      refine own_by (fun t k => X36.ldc2DoubleC hx hown (mvT hZ (hw _ (List.mem_of_getElem? (i := 2) rfl))) (g := (mkF m 80 #[.val (.int q1), .val (.int q2), .val (.int q3), .val (.int q4), .val (.int q5), .val (.int (3 : Int32)), .val (.int k1), .val (.int k2), .val (.int k3), .val (.int k4), .val (.ref b34), .unset, .unset, .unset, .unset, .unset] [(.double (FP.l2d k3.toInt64)), (.int (2 : Int32)), (.ref b34)])) rfl (hb hby at_80) _ k) ?_
      show own_Go p.tables e below K (T36.setTop (mkF m 83 #[.val (.int q1), .val (.int q2), .val (.int q3), .val (.int q4), .val (.int q5), .val (.int (3 : Int32)), .val (.int k1), .val (.int k2), .val (.int k3), .val (.int k4), .val (.ref b34), .unset, .unset, .unset, .unset, .unset] [(.double (4620693217682128896 : UInt64)), (.double (FP.l2d k3.toInt64)), (.int (2 : Int32)), (.ref b34)]))
      refine own_by (fun t k => XS.ddivS X36.here hx rfl (hb hby at_83) rfl (own_fX hk3) rfl k) ?_
      show own_Go p.tables e below K (T36.setTop (mkF m 84 #[.val (.int q1), .val (.int q2), .val (.int q3), .val (.int q4), .val (.int q5), .val (.int (3 : Int32)), .val (.int k1), .val (.int k2), .val (.int k3), .val (.int k4), .val (.ref b34), .unset, .unset, .unset, .unset, .unset] [(.double (own_X k3)), (.int (2 : Int32)), (.ref b34)]))
      obtain ⟨cl37, Ar37, q37, S37, M37, H37, U37⟩ := id V36
      obtain ⟨T37, h37, X37, e37, W37, st37⟩ := stD X36 hx hZ e36 Ar37 (j := (2 : Int32)) (inb_of S37 ⟨by decide, by decide⟩) (g := (mkF m 84 #[.val (.int q1), .val (.int q2), .val (.int q3), .val (.int q4), .val (.int q5), .val (.int (3 : Int32)), .val (.int k1), .val (.int k2), .val (.int k3), .val (.int k4), .val (.ref b34), .unset, .unset, .unset, .unset, .unset] [(.double (own_X k3)), (.int (2 : Int32)), (.ref b34)])) rfl rfl (hb hby at_84)
      refine own_by st37 ?_
      have V37 : Arv Z h37 b34 k34 .double (4 : Int32) [(.double (own_X k1)), (.double (own_X k2)), (.double (own_X k3)), (.double (FP.l2d 0))] (.double (FP.l2d 0)) := Arv.set Ar37 q37 S37 M37 H37 U37 rfl W37 2 rfl (Nat.le_of_ble_eq_true rfl)
      have Z37 := Nat.le_trans Z36 (Keep.of_wr W37).1
      have N37 := Fr.snoc X37 N36 gn_b34
      show own_Go p.tables e below K (T37.setTop (mkF m 85 #[.val (.int q1), .val (.int q2), .val (.int q3), .val (.int q4), .val (.int q5), .val (.int (3 : Int32)), .val (.int k1), .val (.int k2), .val (.int k3), .val (.int k4), .val (.ref b34), .unset, .unset, .unset, .unset, .unset] []))
      refine own_by (fun t k => XS.aload X37.here hx rfl (hb hby at_85) rfl rfl k) ?_
      show own_Go p.tables e below K (T37.setTop (mkF m 87 #[.val (.int q1), .val (.int q2), .val (.int q3), .val (.int q4), .val (.int q5), .val (.int (3 : Int32)), .val (.int k1), .val (.int k2), .val (.int k3), .val (.int k4), .val (.ref b34), .unset, .unset, .unset, .unset, .unset] [(.ref b34)]))
      refine own_by (fun t k => XS.iconst X37.here hx rfl (hb hby at_87) k) ?_
      show own_Go p.tables e below K (T37.setTop (mkF m 88 #[.val (.int q1), .val (.int q2), .val (.int q3), .val (.int q4), .val (.int q5), .val (.int (3 : Int32)), .val (.int k1), .val (.int k2), .val (.int k3), .val (.int k4), .val (.ref b34), .unset, .unset, .unset, .unset, .unset] [(.int (3 : Int32)), (.ref b34)]))
      refine own_by (fun t k => XS.iload X37.here hx rfl (hb hby at_88) rfl k) ?_
      show own_Go p.tables e below K (T37.setTop (mkF m 90 #[.val (.int q1), .val (.int q2), .val (.int q3), .val (.int q4), .val (.int q5), .val (.int (3 : Int32)), .val (.int k1), .val (.int k2), .val (.int k3), .val (.int k4), .val (.ref b34), .unset, .unset, .unset, .unset, .unset] [(.int k4), (.int (3 : Int32)), (.ref b34)]))
      refine own_by (fun t k => XS.i2dS X37.here hx rfl (hb hby at_90) rfl (i2d_w _) k) ?_
      show own_Go p.tables e below K (T37.setTop (mkF m 91 #[.val (.int q1), .val (.int q2), .val (.int q3), .val (.int q4), .val (.int q5), .val (.int (3 : Int32)), .val (.int k1), .val (.int k2), .val (.int k3), .val (.int k4), .val (.ref b34), .unset, .unset, .unset, .unset, .unset] [(.double (FP.l2d k4.toInt64)), (.int (3 : Int32)), (.ref b34)]))
      refine own_by (fun t k => X37.ldc2DoubleC hx hown (mvT hZ (hw _ (List.mem_of_getElem? (i := 2) rfl))) (g := (mkF m 91 #[.val (.int q1), .val (.int q2), .val (.int q3), .val (.int q4), .val (.int q5), .val (.int (3 : Int32)), .val (.int k1), .val (.int k2), .val (.int k3), .val (.int k4), .val (.ref b34), .unset, .unset, .unset, .unset, .unset] [(.double (FP.l2d k4.toInt64)), (.int (3 : Int32)), (.ref b34)])) rfl (hb hby at_91) _ k) ?_
      show own_Go p.tables e below K (T37.setTop (mkF m 94 #[.val (.int q1), .val (.int q2), .val (.int q3), .val (.int q4), .val (.int q5), .val (.int (3 : Int32)), .val (.int k1), .val (.int k2), .val (.int k3), .val (.int k4), .val (.ref b34), .unset, .unset, .unset, .unset, .unset] [(.double (4620693217682128896 : UInt64)), (.double (FP.l2d k4.toInt64)), (.int (3 : Int32)), (.ref b34)]))
      refine own_by (fun t k => XS.ddivS X37.here hx rfl (hb hby at_94) rfl (own_fX hk4) rfl k) ?_
      show own_Go p.tables e below K (T37.setTop (mkF m 95 #[.val (.int q1), .val (.int q2), .val (.int q3), .val (.int q4), .val (.int q5), .val (.int (3 : Int32)), .val (.int k1), .val (.int k2), .val (.int k3), .val (.int k4), .val (.ref b34), .unset, .unset, .unset, .unset, .unset] [(.double (own_X k4)), (.int (3 : Int32)), (.ref b34)]))
      obtain ⟨cl38, Ar38, q38, S38, M38, H38, U38⟩ := id V37
      obtain ⟨T38, h38, X38, e38, W38, st38⟩ := stD X37 hx hZ e37 Ar38 (j := (3 : Int32)) (inb_of S38 ⟨by decide, by decide⟩) (g := (mkF m 95 #[.val (.int q1), .val (.int q2), .val (.int q3), .val (.int q4), .val (.int q5), .val (.int (3 : Int32)), .val (.int k1), .val (.int k2), .val (.int k3), .val (.int k4), .val (.ref b34), .unset, .unset, .unset, .unset, .unset] [(.double (own_X k4)), (.int (3 : Int32)), (.ref b34)])) rfl rfl (hb hby at_95)
      refine own_by st38 ?_
      have V38 : Arv Z h38 b34 k34 .double (4 : Int32) [(.double (own_X k1)), (.double (own_X k2)), (.double (own_X k3)), (.double (own_X k4))] (.double (FP.l2d 0)) := Arv.set Ar38 q38 S38 M38 H38 U38 rfl W38 3 rfl (Nat.le_of_ble_eq_true rfl)
      have Z38 := Nat.le_trans Z37 (Keep.of_wr W38).1
      have N38 := Fr.snoc X38 N37 gn_b34
      show own_Go p.tables e below K (T38.setTop (mkF m 96 #[.val (.int q1), .val (.int q2), .val (.int q3), .val (.int q4), .val (.int q5), .val (.int (3 : Int32)), .val (.int k1), .val (.int k2), .val (.int k3), .val (.int k4), .val (.ref b34), .unset, .unset, .unset, .unset, .unset] []))
      refine own_by (fun t k => XS.iconst X38.here hx rfl (hb hby at_96) k) ?_
      show own_Go p.tables e below K (T38.setTop (mkF m 97 #[.val (.int q1), .val (.int q2), .val (.int q3), .val (.int q4), .val (.int q5), .val (.int (3 : Int32)), .val (.int k1), .val (.int k2), .val (.int k3), .val (.int k4), .val (.ref b34), .unset, .unset, .unset, .unset, .unset] [(.int (0 : Int32))]))
      refine own_by (fun t k => XS.istore X38.here hx rfl (hb hby at_97) rfl (l' := #[.val (.int q1), .val (.int q2), .val (.int q3), .val (.int q4), .val (.int q5), .val (.int (3 : Int32)), .val (.int k1), .val (.int k2), .val (.int k3), .val (.int k4), .val (.ref b34), .val (.int (0 : Int32)), .unset, .unset, .unset, .unset]) rfl k) ?_
      show own_Go p.tables e below K (T38.setTop (mkF m 99 #[.val (.int q1), .val (.int q2), .val (.int q3), .val (.int q4), .val (.int q5), .val (.int (3 : Int32)), .val (.int k1), .val (.int k2), .val (.int k3), .val (.int k4), .val (.ref b34), .val (.int (0 : Int32)), .unset, .unset, .unset, .unset] []))
      refine own_by (fun t k => XS.iload X38.here hx rfl (hb hby at_99) rfl k) ?_
      show own_Go p.tables e below K (T38.setTop (mkF m 101 #[.val (.int q1), .val (.int q2), .val (.int q3), .val (.int q4), .val (.int q5), .val (.int (3 : Int32)), .val (.int k1), .val (.int k2), .val (.int k3), .val (.int k4), .val (.ref b34), .val (.int (0 : Int32)), .unset, .unset, .unset, .unset] [(.int (3 : Int32))]))
      refine own_by (fun t k => XS.iconst X38.here hx rfl (hb hby at_101) k) ?_
      show own_Go p.tables e below K (T38.setTop (mkF m 102 #[.val (.int q1), .val (.int q2), .val (.int q3), .val (.int q4), .val (.int q5), .val (.int (3 : Int32)), .val (.int k1), .val (.int k2), .val (.int k3), .val (.int k4), .val (.ref b34), .val (.int (0 : Int32)), .unset, .unset, .unset, .unset] [(.int (1 : Int32)), (.int (3 : Int32))]))
      have hc102 : (1 : Int32) < (3 : Int32) := by decide
      refine own_by (fun t k => XS.icmpYes X38.here hx rfl (pc0 := 102) (pc' := 115) rfl (hb hby at_102) rfl (tlt hc102).2.2.1 (by decide) (by decide) k) ?_
      show own_Go p.tables e below K (T38.setTop (mkF m 115 #[.val (.int q1), .val (.int q2), .val (.int q3), .val (.int q4), .val (.int q5), .val (.int (3 : Int32)), .val (.int k1), .val (.int k2), .val (.int k3), .val (.int k4), .val (.ref b34), .val (.int (0 : Int32)), .unset, .unset, .unset, .unset] []))
      refine own_by (fun t k => XS.iload X38.here hx rfl (hb hby at_115) rfl k) ?_
      show own_Go p.tables e below K (T38.setTop (mkF m 117 #[.val (.int q1), .val (.int q2), .val (.int q3), .val (.int q4), .val (.int q5), .val (.int (3 : Int32)), .val (.int k1), .val (.int k2), .val (.int k3), .val (.int k4), .val (.ref b34), .val (.int (0 : Int32)), .unset, .unset, .unset, .unset] [(.int (3 : Int32))]))
      refine own_by (fun t k => XS.iconst X38.here hx rfl (hb hby at_117) k) ?_
      show own_Go p.tables e below K (T38.setTop (mkF m 118 #[.val (.int q1), .val (.int q2), .val (.int q3), .val (.int q4), .val (.int q5), .val (.int (3 : Int32)), .val (.int k1), .val (.int k2), .val (.int k3), .val (.int k4), .val (.ref b34), .val (.int (0 : Int32)), .unset, .unset, .unset, .unset] [(.int (2 : Int32)), (.int (3 : Int32))]))
      have hc118 : (2 : Int32) < (3 : Int32) := by decide
      refine own_by (fun t k => XS.icmpYes X38.here hx rfl (pc0 := 118) (pc' := 131) rfl (hb hby at_118) rfl (tlt hc118).2.2.1 (by decide) (by decide) k) ?_
      show own_Go p.tables e below K (T38.setTop (mkF m 131 #[.val (.int q1), .val (.int q2), .val (.int q3), .val (.int q4), .val (.int q5), .val (.int (3 : Int32)), .val (.int k1), .val (.int k2), .val (.int k3), .val (.int k4), .val (.ref b34), .val (.int (0 : Int32)), .unset, .unset, .unset, .unset] []))
      refine own_by (fun t k => XS.iload X38.here hx rfl (hb hby at_131) rfl k) ?_
      show own_Go p.tables e below K (T38.setTop (mkF m 133 #[.val (.int q1), .val (.int q2), .val (.int q3), .val (.int q4), .val (.int q5), .val (.int (3 : Int32)), .val (.int k1), .val (.int k2), .val (.int k3), .val (.int k4), .val (.ref b34), .val (.int (0 : Int32)), .unset, .unset, .unset, .unset] [(.int (3 : Int32))]))
      refine own_by (fun t k => XS.iconst X38.here hx rfl (hb hby at_133) k) ?_
      show own_Go p.tables e below K (T38.setTop (mkF m 134 #[.val (.int q1), .val (.int q2), .val (.int q3), .val (.int q4), .val (.int q5), .val (.int (3 : Int32)), .val (.int k1), .val (.int k2), .val (.int k3), .val (.int k4), .val (.ref b34), .val (.int (0 : Int32)), .unset, .unset, .unset, .unset] [(.int (3 : Int32)), (.int (3 : Int32))]))
      have hc134 : ¬ ((3 : Int32) < (3 : Int32)) := by decide
      refine own_by (fun t k => XS.icmpNo X38.here hx rfl (hb hby at_134) rfl (flt hc134).2.2.1 k) ?_
      show own_Go p.tables e below K (T38.setTop (mkF m 137 #[.val (.int q1), .val (.int q2), .val (.int q3), .val (.int q4), .val (.int q5), .val (.int (3 : Int32)), .val (.int k1), .val (.int k2), .val (.int k3), .val (.int k4), .val (.ref b34), .val (.int (0 : Int32)), .unset, .unset, .unset, .unset] []))
      refine own_by (fun t k => XS.iload X38.here hx rfl (hb hby at_137) rfl k) ?_
      show own_Go p.tables e below K (T38.setTop (mkF m 139 #[.val (.int q1), .val (.int q2), .val (.int q3), .val (.int q4), .val (.int q5), .val (.int (3 : Int32)), .val (.int k1), .val (.int k2), .val (.int k3), .val (.int k4), .val (.ref b34), .val (.int (0 : Int32)), .unset, .unset, .unset, .unset] [(.int (0 : Int32))]))
      refine own_by (fun t k => XS.iload X38.here hx rfl (hb hby at_139) rfl k) ?_
      show own_Go p.tables e below K (T38.setTop (mkF m 141 #[.val (.int q1), .val (.int q2), .val (.int q3), .val (.int q4), .val (.int q5), .val (.int (3 : Int32)), .val (.int k1), .val (.int k2), .val (.int k3), .val (.int k4), .val (.ref b34), .val (.int (0 : Int32)), .unset, .unset, .unset, .unset] [(.int k3), (.int (0 : Int32))]))
      obtain ⟨_, _, ⟨T39, L39, k39, n39⟩, -, X39, ⟨Lc39, hQ39, l39, y39, z39⟩, st39⟩ := Jvm.LawKit.callS X38 hx (y := (⟨"com/example/manyfront/manyfront/problems/DtlzSphereDistancePinLaw", "sq", "(I)I"⟩ : MethodName)) hown (mvT hZ (hw _ (List.mem_of_getElem? (i := 3) rfl))) (mvT hZ (hw _ (List.mem_of_getElem? (i := 4) rfl))) (mvT hZ (hw _ (List.mem_of_getElem? (i := 5) rfl))) (mvT hZ (hw _ (List.mem_of_getElem? (i := 6) rfl))) (by decide) (backOf (W := 1) (own_rmsq l Z aw hw [] k3 h38 n0 Z38) hZ (hw _ (List.mem_of_getElem? (i := 6) rfl)) (hw _ (List.mem_of_getElem? (i := 5) rfl)) (by decide) (by decide)) (g := (mkF m 141 #[.val (.int q1), .val (.int q2), .val (.int q3), .val (.int q4), .val (.int q5), .val (.int (3 : Int32)), .val (.int k1), .val (.int k2), .val (.int k3), .val (.int k4), .val (.ref b34), .val (.int (0 : Int32)), .unset, .unset, .unset, .unset] [(.int k3), (.int (0 : Int32))])) rfl (by rw [hml]; rfl) (argsL := [(.int k3)]) (rest := [(.int (0 : Int32))]) (lenOf own_pd0 rfl) rfl (by show 2 * 0 + _ ≤ _; exact Nat.le_of_eq rfl) (hb hby at_141) (fun _ _ => ⟨rfl, e38, (by decide : 1 + 0 ≤ _), (by decide : 4 + 0 ≤ _)⟩)
      dsimp only [Pt.U, Pt.locs, Pt.cells, Pt.slots] at X39 l39 y39 z39 st39 hQ39
      subst l39 y39 z39
      obtain ⟨rfl, N39q, e39⟩ := hQ39
      have N39 := Fr.app N38 N39q
      refine own_by st39 ?_
      have hI40 := own_is_add (⟨0, by decide, rfl⟩ : own_is 0 0) (own_fM hk3).2
      show own_Go p.tables e below K (T39.setTop (mkF m 144 #[.val (.int q1), .val (.int q2), .val (.int q3), .val (.int q4), .val (.int q5), .val (.int (3 : Int32)), .val (.int k1), .val (.int k2), .val (.int k3), .val (.int k4), .val (.ref b34), .val (.int (0 : Int32)), .unset, .unset, .unset, .unset] [(.int (own_sq k3)), (.int (0 : Int32))]))
      refine own_by (fun t k => XS.iadd X39.here hx rfl (hb hby at_144) rfl k) ?_
      show own_Go p.tables e below K (T39.setTop (mkF m 145 #[.val (.int q1), .val (.int q2), .val (.int q3), .val (.int q4), .val (.int q5), .val (.int (3 : Int32)), .val (.int k1), .val (.int k2), .val (.int k3), .val (.int k4), .val (.ref b34), .val (.int (0 : Int32)), .unset, .unset, .unset, .unset] [(.int ((0 : Int32) + (own_sq k3)))]))
      refine own_by (fun t k => XS.istore X39.here hx rfl (hb hby at_145) rfl (l' := #[.val (.int q1), .val (.int q2), .val (.int q3), .val (.int q4), .val (.int q5), .val (.int (3 : Int32)), .val (.int k1), .val (.int k2), .val (.int k3), .val (.int k4), .val (.ref b34), .val (.int ((0 : Int32) + (own_sq k3))), .unset, .unset, .unset, .unset]) rfl k) ?_
      show own_Go p.tables e below K (T39.setTop (mkF m 147 #[.val (.int q1), .val (.int q2), .val (.int q3), .val (.int q4), .val (.int q5), .val (.int (3 : Int32)), .val (.int k1), .val (.int k2), .val (.int k3), .val (.int k4), .val (.ref b34), .val (.int ((0 : Int32) + (own_sq k3))), .unset, .unset, .unset, .unset] []))
      refine own_by (fun t k => XS.iload X39.here hx rfl (hb hby at_147) rfl k) ?_
      show own_Go p.tables e below K (T39.setTop (mkF m 149 #[.val (.int q1), .val (.int q2), .val (.int q3), .val (.int q4), .val (.int q5), .val (.int (3 : Int32)), .val (.int k1), .val (.int k2), .val (.int k3), .val (.int k4), .val (.ref b34), .val (.int ((0 : Int32) + (own_sq k3))), .unset, .unset, .unset, .unset] [(.int (3 : Int32))]))
      refine own_by (fun t k => XS.iconst X39.here hx rfl (hb hby at_149) k) ?_
      show own_Go p.tables e below K (T39.setTop (mkF m 150 #[.val (.int q1), .val (.int q2), .val (.int q3), .val (.int q4), .val (.int q5), .val (.int (3 : Int32)), .val (.int k1), .val (.int k2), .val (.int k3), .val (.int k4), .val (.ref b34), .val (.int ((0 : Int32) + (own_sq k3))), .unset, .unset, .unset, .unset] [(.int (4 : Int32)), (.int (3 : Int32))]))
      have hc150 : ¬ ((4 : Int32) < (3 : Int32)) := by decide
      refine own_by (fun t k => XS.icmpNo X39.here hx rfl (hb hby at_150) rfl (flt hc150).2.2.1 k) ?_
      show own_Go p.tables e below K (T39.setTop (mkF m 153 #[.val (.int q1), .val (.int q2), .val (.int q3), .val (.int q4), .val (.int q5), .val (.int (3 : Int32)), .val (.int k1), .val (.int k2), .val (.int k3), .val (.int k4), .val (.ref b34), .val (.int ((0 : Int32) + (own_sq k3))), .unset, .unset, .unset, .unset] []))
      refine own_by (fun t k => XS.iload X39.here hx rfl (hb hby at_153) rfl k) ?_
      show own_Go p.tables e below K (T39.setTop (mkF m 155 #[.val (.int q1), .val (.int q2), .val (.int q3), .val (.int q4), .val (.int q5), .val (.int (3 : Int32)), .val (.int k1), .val (.int k2), .val (.int k3), .val (.int k4), .val (.ref b34), .val (.int ((0 : Int32) + (own_sq k3))), .unset, .unset, .unset, .unset] [(.int ((0 : Int32) + (own_sq k3)))]))
      refine own_by (fun t k => XS.iload X39.here hx rfl (hb hby at_155) rfl k) ?_
      show own_Go p.tables e below K (T39.setTop (mkF m 157 #[.val (.int q1), .val (.int q2), .val (.int q3), .val (.int q4), .val (.int q5), .val (.int (3 : Int32)), .val (.int k1), .val (.int k2), .val (.int k3), .val (.int k4), .val (.ref b34), .val (.int ((0 : Int32) + (own_sq k3))), .unset, .unset, .unset, .unset] [(.int k4), (.int ((0 : Int32) + (own_sq k3)))]))
      obtain ⟨_, _, ⟨T41, L41, k41, n41⟩, -, X41, ⟨Lc41, hQ41, l41, y41, z41⟩, st41⟩ := Jvm.LawKit.callS X39 hx (y := (⟨"com/example/manyfront/manyfront/problems/DtlzSphereDistancePinLaw", "sq", "(I)I"⟩ : MethodName)) hown (mvT hZ (hw _ (List.mem_of_getElem? (i := 3) rfl))) (mvT hZ (hw _ (List.mem_of_getElem? (i := 4) rfl))) (mvT hZ (hw _ (List.mem_of_getElem? (i := 5) rfl))) (mvT hZ (hw _ (List.mem_of_getElem? (i := 6) rfl))) (by decide) (backOf (W := 1) (own_rmsq l Z aw hw [] k4 h38 n0 Z38) hZ (hw _ (List.mem_of_getElem? (i := 6) rfl)) (hw _ (List.mem_of_getElem? (i := 5) rfl)) (by decide) (by decide)) (g := (mkF m 157 #[.val (.int q1), .val (.int q2), .val (.int q3), .val (.int q4), .val (.int q5), .val (.int (3 : Int32)), .val (.int k1), .val (.int k2), .val (.int k3), .val (.int k4), .val (.ref b34), .val (.int ((0 : Int32) + (own_sq k3))), .unset, .unset, .unset, .unset] [(.int k4), (.int ((0 : Int32) + (own_sq k3)))])) rfl (by rw [hml]; rfl) (argsL := [(.int k4)]) (rest := [(.int ((0 : Int32) + (own_sq k3)))]) (lenOf own_pd0 rfl) rfl (by show 2 * 0 + _ ≤ _; exact Nat.le_of_eq rfl) (hb hby at_157) (fun _ _ => ⟨rfl, e39, (by decide : 1 + 0 ≤ _), (by decide : 4 + 0 ≤ _)⟩)
      dsimp only [Pt.U, Pt.locs, Pt.cells, Pt.slots] at X41 l41 y41 z41 st41 hQ41
      subst l41 y41 z41
      obtain ⟨rfl, N41q, e41⟩ := hQ41
      have N41 := Fr.app N39 N41q
      refine own_by st41 ?_
      have hI42 := own_is_add hI40 (own_fM hk4).2
      show own_Go p.tables e below K (T41.setTop (mkF m 160 #[.val (.int q1), .val (.int q2), .val (.int q3), .val (.int q4), .val (.int q5), .val (.int (3 : Int32)), .val (.int k1), .val (.int k2), .val (.int k3), .val (.int k4), .val (.ref b34), .val (.int ((0 : Int32) + (own_sq k3))), .unset, .unset, .unset, .unset] [(.int (own_sq k4)), (.int ((0 : Int32) + (own_sq k3)))]))
      refine own_by (fun t k => XS.iadd X41.here hx rfl (hb hby at_160) rfl k) ?_
      show own_Go p.tables e below K (T41.setTop (mkF m 161 #[.val (.int q1), .val (.int q2), .val (.int q3), .val (.int q4), .val (.int q5), .val (.int (3 : Int32)), .val (.int k1), .val (.int k2), .val (.int k3), .val (.int k4), .val (.ref b34), .val (.int ((0 : Int32) + (own_sq k3))), .unset, .unset, .unset, .unset] [(.int (((0 : Int32) + (own_sq k3)) + (own_sq k4)))]))
      refine own_by (fun t k => XS.istore X41.here hx rfl (hb hby at_161) rfl (l' := #[.val (.int q1), .val (.int q2), .val (.int q3), .val (.int q4), .val (.int q5), .val (.int (3 : Int32)), .val (.int k1), .val (.int k2), .val (.int k3), .val (.int k4), .val (.ref b34), .val (.int (((0 : Int32) + (own_sq k3)) + (own_sq k4))), .unset, .unset, .unset, .unset]) rfl k) ?_
      show own_Go p.tables e below K (T41.setTop (mkF m 163 #[.val (.int q1), .val (.int q2), .val (.int q3), .val (.int q4), .val (.int q5), .val (.int (3 : Int32)), .val (.int k1), .val (.int k2), .val (.int k3), .val (.int k4), .val (.ref b34), .val (.int (((0 : Int32) + (own_sq k3)) + (own_sq k4))), .unset, .unset, .unset, .unset] []))
      refine own_by (fun t k => XS.iload X41.here hx rfl (hb hby at_163) rfl k) ?_
      show own_Go p.tables e below K (T41.setTop (mkF m 165 #[.val (.int q1), .val (.int q2), .val (.int q3), .val (.int q4), .val (.int q5), .val (.int (3 : Int32)), .val (.int k1), .val (.int k2), .val (.int k3), .val (.int k4), .val (.ref b34), .val (.int (((0 : Int32) + (own_sq k3)) + (own_sq k4))), .unset, .unset, .unset, .unset] [(.int (((0 : Int32) + (own_sq k3)) + (own_sq k4)))]))
      refine own_by (fun t k => XS.i2dS X41.here hx rfl (hb hby at_165) rfl (i2d_w _) k) ?_
      show own_Go p.tables e below K (T41.setTop (mkF m 166 #[.val (.int q1), .val (.int q2), .val (.int q3), .val (.int q4), .val (.int q5), .val (.int (3 : Int32)), .val (.int k1), .val (.int k2), .val (.int k3), .val (.int k4), .val (.ref b34), .val (.int (((0 : Int32) + (own_sq k3)) + (own_sq k4))), .unset, .unset, .unset, .unset] [(.double (FP.l2d (((0 : Int32) + (own_sq k3)) + (own_sq k4)).toInt64))]))
      refine own_by (fun t k => X41.ldc2DoubleC hx hown (mvT hZ (hw _ (List.mem_of_getElem? (i := 7) rfl))) (g := (mkF m 166 #[.val (.int q1), .val (.int q2), .val (.int q3), .val (.int q4), .val (.int q5), .val (.int (3 : Int32)), .val (.int k1), .val (.int k2), .val (.int k3), .val (.int k4), .val (.ref b34), .val (.int (((0 : Int32) + (own_sq k3)) + (own_sq k4))), .unset, .unset, .unset, .unset] [(.double (FP.l2d (((0 : Int32) + (own_sq k3)) + (own_sq k4)).toInt64))])) rfl (hb hby at_166) _ k) ?_
      show own_Go p.tables e below K (T41.setTop (mkF m 169 #[.val (.int q1), .val (.int q2), .val (.int q3), .val (.int q4), .val (.int q5), .val (.int (3 : Int32)), .val (.int k1), .val (.int k2), .val (.int k3), .val (.int k4), .val (.ref b34), .val (.int (((0 : Int32) + (own_sq k3)) + (own_sq k4))), .unset, .unset, .unset, .unset] [(.double (4634204016564240384 : UInt64)), (.double (FP.l2d (((0 : Int32) + (own_sq k3)) + (own_sq k4)).toInt64))]))
      refine own_by (fun t k => XS.ddivS X41.here hx rfl (hb hby at_169) rfl (own_nT (own_up hI42 (by decide))) rfl k) ?_
      show own_Go p.tables e below K (T41.setTop (mkF m 170 #[.val (.int q1), .val (.int q2), .val (.int q3), .val (.int q4), .val (.int q5), .val (.int (3 : Int32)), .val (.int k1), .val (.int k2), .val (.int k3), .val (.int k4), .val (.ref b34), .val (.int (((0 : Int32) + (own_sq k3)) + (own_sq k4))), .unset, .unset, .unset, .unset] [(.double (own_T (((0 : Int32) + own_sq k3) + own_sq k4)))]))
      refine own_by (fun t k => XS.dstore X41.here hx rfl (hb hby at_170) rfl (l' := #[.val (.int q1), .val (.int q2), .val (.int q3), .val (.int q4), .val (.int q5), .val (.int (3 : Int32)), .val (.int k1), .val (.int k2), .val (.int k3), .val (.int k4), .val (.ref b34), .val (.int (((0 : Int32) + (own_sq k3)) + (own_sq k4))), .val (.double (own_T (((0 : Int32) + own_sq k3) + own_sq k4))), .second, .unset, .unset]) rfl k) ?_
      show own_Go p.tables e below K (T41.setTop (mkF m 172 #[.val (.int q1), .val (.int q2), .val (.int q3), .val (.int q4), .val (.int q5), .val (.int (3 : Int32)), .val (.int k1), .val (.int k2), .val (.int k3), .val (.int k4), .val (.ref b34), .val (.int (((0 : Int32) + (own_sq k3)) + (own_sq k4))), .val (.double (own_T (((0 : Int32) + own_sq k3) + own_sq k4))), .second, .unset, .unset] []))
      refine own_by (fun t k => XS.aload X41.here hx rfl (hb hby at_172) rfl rfl k) ?_
      show own_Go p.tables e below K (T41.setTop (mkF m 174 #[.val (.int q1), .val (.int q2), .val (.int q3), .val (.int q4), .val (.int q5), .val (.int (3 : Int32)), .val (.int k1), .val (.int k2), .val (.int k3), .val (.int k4), .val (.ref b34), .val (.int (((0 : Int32) + (own_sq k3)) + (own_sq k4))), .val (.double (own_T (((0 : Int32) + own_sq k3) + own_sq k4))), .second, .unset, .unset] [(.ref b34)]))
      refine own_by (fun t k => XS.iload X41.here hx rfl (hb hby at_174) rfl k) ?_
      show own_Go p.tables e below K (T41.setTop (mkF m 176 #[.val (.int q1), .val (.int q2), .val (.int q3), .val (.int q4), .val (.int q5), .val (.int (3 : Int32)), .val (.int k1), .val (.int k2), .val (.int k3), .val (.int k4), .val (.ref b34), .val (.int (((0 : Int32) + (own_sq k3)) + (own_sq k4))), .val (.double (own_T (((0 : Int32) + own_sq k3) + own_sq k4))), .second, .unset, .unset] [(.int (3 : Int32)), (.ref b34)]))
      obtain ⟨_, _, ⟨T43, L43, k43, n43⟩, -, X43, ⟨Lc43, hQ43, l43, y43, z43⟩, st43⟩ := Jvm.LawKit.callS X41 hx (y := (⟨"com/example/manyfront/manyfront/problems/Dtlz", "sphereDistance", "([DI)D"⟩ : MethodName)) hown (mvT hZ (hw _ (List.mem_of_getElem? (i := 8) rfl))) (mvT hZ (hw _ (List.mem_of_getElem? (i := 9) rfl))) (mvT hZ (hw _ (List.mem_of_getElem? (i := 10) rfl))) (mvT hZ (hw _ (List.mem_of_getElem? (i := 11) rfl))) (by decide) (backOf (W := 0) (own_rmsd3 l Z aw hw [] b34 _ k1 k2 k3 k4 h38 n0 Z38 V38 hk1 hk2 hk3 hk4) hZ (hw _ (List.mem_of_getElem? (i := 11) rfl)) (hw _ (List.mem_of_getElem? (i := 10) rfl)) (by decide) (by decide)) (g := (mkF m 176 #[.val (.int q1), .val (.int q2), .val (.int q3), .val (.int q4), .val (.int q5), .val (.int (3 : Int32)), .val (.int k1), .val (.int k2), .val (.int k3), .val (.int k4), .val (.ref b34), .val (.int (((0 : Int32) + (own_sq k3)) + (own_sq k4))), .val (.double (own_T (((0 : Int32) + own_sq k3) + own_sq k4))), .second, .unset, .unset] [(.int (3 : Int32)), (.ref b34)])) rfl (by rw [hml]; rfl) (argsL := [(.ref b34), (.int (3 : Int32))]) (rest := []) (lenOf own_pd1 rfl) rfl (by show 2 * 0 + _ ≤ _; exact Nat.le_of_eq rfl) (hb hby at_176) (fun _ _ => ⟨rfl, e41, (by decide : 1 + 0 ≤ _), (by decide : 4 + 0 ≤ _)⟩)
      dsimp only [Pt.U, Pt.locs, Pt.cells, Pt.slots] at X43 l43 y43 z43 st43 hQ43
      subst l43 y43 z43
      obtain ⟨rfl, N43q, e43⟩ := hQ43
      have N43 := Fr.app N41 N43q
      refine own_by st43 ?_
      show own_Go p.tables e below K (T43.setTop (mkF m 179 #[.val (.int q1), .val (.int q2), .val (.int q3), .val (.int q4), .val (.int q5), .val (.int (3 : Int32)), .val (.int k1), .val (.int k2), .val (.int k3), .val (.int k4), .val (.ref b34), .val (.int (((0 : Int32) + (own_sq k3)) + (own_sq k4))), .val (.double (own_T (((0 : Int32) + own_sq k3) + own_sq k4))), .second, .unset, .unset] [(.double (own_T (((0 : Int32) + own_sq k3) + own_sq k4)))]))
      refine own_by (fun t k => XS.dstore X43.here hx rfl (hb hby at_179) rfl (l' := #[.val (.int q1), .val (.int q2), .val (.int q3), .val (.int q4), .val (.int q5), .val (.int (3 : Int32)), .val (.int k1), .val (.int k2), .val (.int k3), .val (.int k4), .val (.ref b34), .val (.int (((0 : Int32) + (own_sq k3)) + (own_sq k4))), .val (.double (own_T (((0 : Int32) + own_sq k3) + own_sq k4))), .second, .val (.double (own_T (((0 : Int32) + own_sq k3) + own_sq k4))), .second]) rfl k) ?_
      show own_Go p.tables e below K (T43.setTop (mkF m 181 #[.val (.int q1), .val (.int q2), .val (.int q3), .val (.int q4), .val (.int q5), .val (.int (3 : Int32)), .val (.int k1), .val (.int k2), .val (.int k3), .val (.int k4), .val (.ref b34), .val (.int (((0 : Int32) + (own_sq k3)) + (own_sq k4))), .val (.double (own_T (((0 : Int32) + own_sq k3) + own_sq k4))), .second, .val (.double (own_T (((0 : Int32) + own_sq k3) + own_sq k4))), .second] []))
      refine own_by (fun t k => XS.dload X43.here hx rfl (hb hby at_181) rfl k) ?_
      show own_Go p.tables e below K (T43.setTop (mkF m 183 #[.val (.int q1), .val (.int q2), .val (.int q3), .val (.int q4), .val (.int q5), .val (.int (3 : Int32)), .val (.int k1), .val (.int k2), .val (.int k3), .val (.int k4), .val (.ref b34), .val (.int (((0 : Int32) + (own_sq k3)) + (own_sq k4))), .val (.double (own_T (((0 : Int32) + own_sq k3) + own_sq k4))), .second, .val (.double (own_T (((0 : Int32) + own_sq k3) + own_sq k4))), .second] [(.double (own_T (((0 : Int32) + own_sq k3) + own_sq k4)))]))
      refine own_by (fun t k => XS.dload X43.here hx rfl (hb hby at_183) rfl k) ?_
      show own_Go p.tables e below K (T43.setTop (mkF m 185 #[.val (.int q1), .val (.int q2), .val (.int q3), .val (.int q4), .val (.int q5), .val (.int (3 : Int32)), .val (.int k1), .val (.int k2), .val (.int k3), .val (.int k4), .val (.ref b34), .val (.int (((0 : Int32) + (own_sq k3)) + (own_sq k4))), .val (.double (own_T (((0 : Int32) + own_sq k3) + own_sq k4))), .second, .val (.double (own_T (((0 : Int32) + own_sq k3) + own_sq k4))), .second] [(.double (own_T (((0 : Int32) + own_sq k3) + own_sq k4))), (.double (own_T (((0 : Int32) + own_sq k3) + own_sq k4)))]))
      refine own_by (fun t k => XS.dcmpS X43.here hx rfl (hb hby at_185) rfl (dcmpV_self (own_nT (own_up hI42 (by decide))) _) k) ?_
      show own_Go p.tables e below K (T43.setTop (mkF m 186 #[.val (.int q1), .val (.int q2), .val (.int q3), .val (.int q4), .val (.int q5), .val (.int (3 : Int32)), .val (.int k1), .val (.int k2), .val (.int k3), .val (.int k4), .val (.ref b34), .val (.int (((0 : Int32) + (own_sq k3)) + (own_sq k4))), .val (.double (own_T (((0 : Int32) + own_sq k3) + own_sq k4))), .second, .val (.double (own_T (((0 : Int32) + own_sq k3) + own_sq k4))), .second] [(.int (0 : Int32))]))
      have hc186 : (0 : Int32) = (0 : Int32) := by decide
      refine own_by (fun t k => XS.ifNo X43.here hx rfl (hb hby at_186) rfl ((if0 _ _).trans (teq hc186).2) k) ?_
      show own_Go p.tables e below K (T43.setTop (mkF m 189 #[.val (.int q1), .val (.int q2), .val (.int q3), .val (.int q4), .val (.int q5), .val (.int (3 : Int32)), .val (.int k1), .val (.int k2), .val (.int k3), .val (.int k4), .val (.ref b34), .val (.int (((0 : Int32) + (own_sq k3)) + (own_sq k4))), .val (.double (own_T (((0 : Int32) + own_sq k3) + own_sq k4))), .second, .val (.double (own_T (((0 : Int32) + own_sq k3) + own_sq k4))), .second] []))
      refine own_by (fun t k => XS.iconst X43.here hx rfl (hb hby at_189) k) ?_
      show own_Go p.tables e below K (T43.setTop (mkF m 190 #[.val (.int q1), .val (.int q2), .val (.int q3), .val (.int q4), .val (.int q5), .val (.int (3 : Int32)), .val (.int k1), .val (.int k2), .val (.int k3), .val (.int k4), .val (.ref b34), .val (.int (((0 : Int32) + (own_sq k3)) + (own_sq k4))), .val (.double (own_T (((0 : Int32) + own_sq k3) + own_sq k4))), .second, .val (.double (own_T (((0 : Int32) + own_sq k3) + own_sq k4))), .second] [(.int (1 : Int32))]))
      refine own_by (fun t k => XS.goto X43.here hx rfl (pc0 := 190) (pc' := 194) rfl (hb hby at_190) (by decide) (by decide) k) ?_
      show own_Go p.tables e below K (T43.setTop (mkF m 194 #[.val (.int q1), .val (.int q2), .val (.int q3), .val (.int q4), .val (.int q5), .val (.int (3 : Int32)), .val (.int k1), .val (.int k2), .val (.int k3), .val (.int k4), .val (.ref b34), .val (.int (((0 : Int32) + (own_sq k3)) + (own_sq k4))), .val (.double (own_T (((0 : Int32) + own_sq k3) + own_sq k4))), .second, .val (.double (own_T (((0 : Int32) + own_sq k3) + own_sq k4))), .second] [(.int (1 : Int32))]))
      exact own_retZ X43 hx (t := .boolean) hret (by simp) (hb hby at_194) (hK (some (.int (1 : Int32))) X43 (fun h => by rw [hret] at h; cases h) (⟨rfl, N43⟩) (by decide) (by decide))
    · show own_Go p.tables e below K (s₁.setTop (mkF m 47 #[.val (.int q1), .val (.int q2), .val (.int q3), .val (.int q4), .val (.int q5), .val (.int (4 : Int32)), .val (.int k1), .val (.int k2), .val (.int k3), .val (.int k4), .unset, .unset, .unset, .unset, .unset, .unset] []))
      refine own_by (fun t k => XS.iconst X0.here hx rfl (hb hby at_47) k) ?_
      show own_Go p.tables e below K (s₁.setTop (mkF m 48 #[.val (.int q1), .val (.int q2), .val (.int q3), .val (.int q4), .val (.int q5), .val (.int (4 : Int32)), .val (.int k1), .val (.int k2), .val (.int k3), .val (.int k4), .unset, .unset, .unset, .unset, .unset, .unset] [(.int (4 : Int32))]))
      obtain ⟨T44, h44, k44, X44, e44, E44, A44, st44⟩ := newP X0 hx hZ (hw _ (List.mem_of_getElem? (i := 1) rfl)) e0 (g := (mkF m 48 #[.val (.int q1), .val (.int q2), .val (.int q3), .val (.int q4), .val (.int q5), .val (.int (4 : Int32)), .val (.int k1), .val (.int k2), .val (.int k3), .val (.int k4), .unset, .unset, .unset, .unset, .unset, .unset] [(.int (4 : Int32))])) rfl (hb hby at_48) rfl (by decide) (cap := 4) (by decide) (by decide) (by decide) (by decide)
      obtain ⟨b44, g44⟩ : ∃ z, z = h0.size := ⟨_, rfl⟩
      rw [← g44] at A44 st44
      refine own_by st44 ?_
      have gn_b44 : n0 ≤ b44 := Nat.le_trans Z0 (Nat.le_of_eq g44.symm)
      have Z44 := Nat.le_trans Z0 E44.1
      have V44 : Arv Z h44 b44 k44 .double (4 : Int32) [(.double (FP.l2d 0)), (.double (FP.l2d 0)), (.double (FP.l2d 0)), (.double (FP.l2d 0))] (.double (FP.l2d 0)) := (Arv.newD A44 (by decide)).pad (pad_rep [] (.double (FP.l2d 0)) 4)
      show own_Go p.tables e below K (T44.setTop (mkF m 50 #[.val (.int q1), .val (.int q2), .val (.int q3), .val (.int q4), .val (.int q5), .val (.int (4 : Int32)), .val (.int k1), .val (.int k2), .val (.int k3), .val (.int k4), .unset, .unset, .unset, .unset, .unset, .unset] [(.ref b44)]))
      refine own_by (fun t k => XS.astore X44.here hx rfl (hb hby at_50) rfl rfl (l' := #[.val (.int q1), .val (.int q2), .val (.int q3), .val (.int q4), .val (.int q5), .val (.int (4 : Int32)), .val (.int k1), .val (.int k2), .val (.int k3), .val (.int k4), .val (.ref b44), .unset, .unset, .unset, .unset, .unset]) rfl k) ?_
      show own_Go p.tables e below K (T44.setTop (mkF m 52 #[.val (.int q1), .val (.int q2), .val (.int q3), .val (.int q4), .val (.int q5), .val (.int (4 : Int32)), .val (.int k1), .val (.int k2), .val (.int k3), .val (.int k4), .val (.ref b44), .unset, .unset, .unset, .unset, .unset] []))
      refine own_by (fun t k => XS.aload X44.here hx rfl (hb hby at_52) rfl rfl k) ?_
      show own_Go p.tables e below K (T44.setTop (mkF m 54 #[.val (.int q1), .val (.int q2), .val (.int q3), .val (.int q4), .val (.int q5), .val (.int (4 : Int32)), .val (.int k1), .val (.int k2), .val (.int k3), .val (.int k4), .val (.ref b44), .unset, .unset, .unset, .unset, .unset] [(.ref b44)]))
      refine own_by (fun t k => XS.iconst X44.here hx rfl (hb hby at_54) k) ?_
      show own_Go p.tables e below K (T44.setTop (mkF m 55 #[.val (.int q1), .val (.int q2), .val (.int q3), .val (.int q4), .val (.int q5), .val (.int (4 : Int32)), .val (.int k1), .val (.int k2), .val (.int k3), .val (.int k4), .val (.ref b44), .unset, .unset, .unset, .unset, .unset] [(.int (0 : Int32)), (.ref b44)]))
      refine own_by (fun t k => XS.iload X44.here hx rfl (hb hby at_55) rfl k) ?_
      show own_Go p.tables e below K (T44.setTop (mkF m 57 #[.val (.int q1), .val (.int q2), .val (.int q3), .val (.int q4), .val (.int q5), .val (.int (4 : Int32)), .val (.int k1), .val (.int k2), .val (.int k3), .val (.int k4), .val (.ref b44), .unset, .unset, .unset, .unset, .unset] [(.int k1), (.int (0 : Int32)), (.ref b44)]))
      refine own_by (fun t k => XS.i2dS X44.here hx rfl (hb hby at_57) rfl (i2d_w _) k) ?_
      show own_Go p.tables e below K (T44.setTop (mkF m 58 #[.val (.int q1), .val (.int q2), .val (.int q3), .val (.int q4), .val (.int q5), .val (.int (4 : Int32)), .val (.int k1), .val (.int k2), .val (.int k3), .val (.int k4), .val (.ref b44), .unset, .unset, .unset, .unset, .unset] [(.double (FP.l2d k1.toInt64)), (.int (0 : Int32)), (.ref b44)]))
      refine own_by (fun t k => X44.ldc2DoubleC hx hown (mvT hZ (hw _ (List.mem_of_getElem? (i := 2) rfl))) (g := (mkF m 58 #[.val (.int q1), .val (.int q2), .val (.int q3), .val (.int q4), .val (.int q5), .val (.int (4 : Int32)), .val (.int k1), .val (.int k2), .val (.int k3), .val (.int k4), .val (.ref b44), .unset, .unset, .unset, .unset, .unset] [(.double (FP.l2d k1.toInt64)), (.int (0 : Int32)), (.ref b44)])) rfl (hb hby at_58) _ k) ?_
      show own_Go p.tables e below K (T44.setTop (mkF m 61 #[.val (.int q1), .val (.int q2), .val (.int q3), .val (.int q4), .val (.int q5), .val (.int (4 : Int32)), .val (.int k1), .val (.int k2), .val (.int k3), .val (.int k4), .val (.ref b44), .unset, .unset, .unset, .unset, .unset] [(.double (4620693217682128896 : UInt64)), (.double (FP.l2d k1.toInt64)), (.int (0 : Int32)), (.ref b44)]))
      refine own_by (fun t k => XS.ddivS X44.here hx rfl (hb hby at_61) rfl (own_fX hk1) rfl k) ?_
      show own_Go p.tables e below K (T44.setTop (mkF m 62 #[.val (.int q1), .val (.int q2), .val (.int q3), .val (.int q4), .val (.int q5), .val (.int (4 : Int32)), .val (.int k1), .val (.int k2), .val (.int k3), .val (.int k4), .val (.ref b44), .unset, .unset, .unset, .unset, .unset] [(.double (own_X k1)), (.int (0 : Int32)), (.ref b44)]))
      obtain ⟨cl45, Ar45, q45, S45, M45, H45, U45⟩ := id V44
      obtain ⟨T45, h45, X45, e45, W45, st45⟩ := stD X44 hx hZ e44 Ar45 (j := (0 : Int32)) (inb_of S45 ⟨by decide, by decide⟩) (g := (mkF m 62 #[.val (.int q1), .val (.int q2), .val (.int q3), .val (.int q4), .val (.int q5), .val (.int (4 : Int32)), .val (.int k1), .val (.int k2), .val (.int k3), .val (.int k4), .val (.ref b44), .unset, .unset, .unset, .unset, .unset] [(.double (own_X k1)), (.int (0 : Int32)), (.ref b44)])) rfl rfl (hb hby at_62)
      refine own_by st45 ?_
      have V45 : Arv Z h45 b44 k44 .double (4 : Int32) [(.double (own_X k1)), (.double (FP.l2d 0)), (.double (FP.l2d 0)), (.double (FP.l2d 0))] (.double (FP.l2d 0)) := Arv.set Ar45 q45 S45 M45 H45 U45 rfl W45 0 rfl (Nat.le_of_ble_eq_true rfl)
      have Z45 := Nat.le_trans Z44 (Keep.of_wr W45).1
      have N45 := Fr.snoc X45 N0 gn_b44
      show own_Go p.tables e below K (T45.setTop (mkF m 63 #[.val (.int q1), .val (.int q2), .val (.int q3), .val (.int q4), .val (.int q5), .val (.int (4 : Int32)), .val (.int k1), .val (.int k2), .val (.int k3), .val (.int k4), .val (.ref b44), .unset, .unset, .unset, .unset, .unset] []))
      refine own_by (fun t k => XS.aload X45.here hx rfl (hb hby at_63) rfl rfl k) ?_
      show own_Go p.tables e below K (T45.setTop (mkF m 65 #[.val (.int q1), .val (.int q2), .val (.int q3), .val (.int q4), .val (.int q5), .val (.int (4 : Int32)), .val (.int k1), .val (.int k2), .val (.int k3), .val (.int k4), .val (.ref b44), .unset, .unset, .unset, .unset, .unset] [(.ref b44)]))
      refine own_by (fun t k => XS.iconst X45.here hx rfl (hb hby at_65) k) ?_
      show own_Go p.tables e below K (T45.setTop (mkF m 66 #[.val (.int q1), .val (.int q2), .val (.int q3), .val (.int q4), .val (.int q5), .val (.int (4 : Int32)), .val (.int k1), .val (.int k2), .val (.int k3), .val (.int k4), .val (.ref b44), .unset, .unset, .unset, .unset, .unset] [(.int (1 : Int32)), (.ref b44)]))
      refine own_by (fun t k => XS.iload X45.here hx rfl (hb hby at_66) rfl k) ?_
      show own_Go p.tables e below K (T45.setTop (mkF m 68 #[.val (.int q1), .val (.int q2), .val (.int q3), .val (.int q4), .val (.int q5), .val (.int (4 : Int32)), .val (.int k1), .val (.int k2), .val (.int k3), .val (.int k4), .val (.ref b44), .unset, .unset, .unset, .unset, .unset] [(.int k2), (.int (1 : Int32)), (.ref b44)]))
      refine own_by (fun t k => XS.i2dS X45.here hx rfl (hb hby at_68) rfl (i2d_w _) k) ?_
      show own_Go p.tables e below K (T45.setTop (mkF m 69 #[.val (.int q1), .val (.int q2), .val (.int q3), .val (.int q4), .val (.int q5), .val (.int (4 : Int32)), .val (.int k1), .val (.int k2), .val (.int k3), .val (.int k4), .val (.ref b44), .unset, .unset, .unset, .unset, .unset] [(.double (FP.l2d k2.toInt64)), (.int (1 : Int32)), (.ref b44)]))
      refine own_by (fun t k => X45.ldc2DoubleC hx hown (mvT hZ (hw _ (List.mem_of_getElem? (i := 2) rfl))) (g := (mkF m 69 #[.val (.int q1), .val (.int q2), .val (.int q3), .val (.int q4), .val (.int q5), .val (.int (4 : Int32)), .val (.int k1), .val (.int k2), .val (.int k3), .val (.int k4), .val (.ref b44), .unset, .unset, .unset, .unset, .unset] [(.double (FP.l2d k2.toInt64)), (.int (1 : Int32)), (.ref b44)])) rfl (hb hby at_69) _ k) ?_
      show own_Go p.tables e below K (T45.setTop (mkF m 72 #[.val (.int q1), .val (.int q2), .val (.int q3), .val (.int q4), .val (.int q5), .val (.int (4 : Int32)), .val (.int k1), .val (.int k2), .val (.int k3), .val (.int k4), .val (.ref b44), .unset, .unset, .unset, .unset, .unset] [(.double (4620693217682128896 : UInt64)), (.double (FP.l2d k2.toInt64)), (.int (1 : Int32)), (.ref b44)]))
      refine own_by (fun t k => XS.ddivS X45.here hx rfl (hb hby at_72) rfl (own_fX hk2) rfl k) ?_
      show own_Go p.tables e below K (T45.setTop (mkF m 73 #[.val (.int q1), .val (.int q2), .val (.int q3), .val (.int q4), .val (.int q5), .val (.int (4 : Int32)), .val (.int k1), .val (.int k2), .val (.int k3), .val (.int k4), .val (.ref b44), .unset, .unset, .unset, .unset, .unset] [(.double (own_X k2)), (.int (1 : Int32)), (.ref b44)]))
      obtain ⟨cl46, Ar46, q46, S46, M46, H46, U46⟩ := id V45
      obtain ⟨T46, h46, X46, e46, W46, st46⟩ := stD X45 hx hZ e45 Ar46 (j := (1 : Int32)) (inb_of S46 ⟨by decide, by decide⟩) (g := (mkF m 73 #[.val (.int q1), .val (.int q2), .val (.int q3), .val (.int q4), .val (.int q5), .val (.int (4 : Int32)), .val (.int k1), .val (.int k2), .val (.int k3), .val (.int k4), .val (.ref b44), .unset, .unset, .unset, .unset, .unset] [(.double (own_X k2)), (.int (1 : Int32)), (.ref b44)])) rfl rfl (hb hby at_73)
      refine own_by st46 ?_
      have V46 : Arv Z h46 b44 k44 .double (4 : Int32) [(.double (own_X k1)), (.double (own_X k2)), (.double (FP.l2d 0)), (.double (FP.l2d 0))] (.double (FP.l2d 0)) := Arv.set Ar46 q46 S46 M46 H46 U46 rfl W46 1 rfl (Nat.le_of_ble_eq_true rfl)
      have Z46 := Nat.le_trans Z45 (Keep.of_wr W46).1
      have N46 := Fr.snoc X46 N45 gn_b44
      show own_Go p.tables e below K (T46.setTop (mkF m 74 #[.val (.int q1), .val (.int q2), .val (.int q3), .val (.int q4), .val (.int q5), .val (.int (4 : Int32)), .val (.int k1), .val (.int k2), .val (.int k3), .val (.int k4), .val (.ref b44), .unset, .unset, .unset, .unset, .unset] []))
      refine own_by (fun t k => XS.aload X46.here hx rfl (hb hby at_74) rfl rfl k) ?_
      show own_Go p.tables e below K (T46.setTop (mkF m 76 #[.val (.int q1), .val (.int q2), .val (.int q3), .val (.int q4), .val (.int q5), .val (.int (4 : Int32)), .val (.int k1), .val (.int k2), .val (.int k3), .val (.int k4), .val (.ref b44), .unset, .unset, .unset, .unset, .unset] [(.ref b44)]))
      refine own_by (fun t k => XS.iconst X46.here hx rfl (hb hby at_76) k) ?_
      show own_Go p.tables e below K (T46.setTop (mkF m 77 #[.val (.int q1), .val (.int q2), .val (.int q3), .val (.int q4), .val (.int q5), .val (.int (4 : Int32)), .val (.int k1), .val (.int k2), .val (.int k3), .val (.int k4), .val (.ref b44), .unset, .unset, .unset, .unset, .unset] [(.int (2 : Int32)), (.ref b44)]))
      refine own_by (fun t k => XS.iload X46.here hx rfl (hb hby at_77) rfl k) ?_
      show own_Go p.tables e below K (T46.setTop (mkF m 79 #[.val (.int q1), .val (.int q2), .val (.int q3), .val (.int q4), .val (.int q5), .val (.int (4 : Int32)), .val (.int k1), .val (.int k2), .val (.int k3), .val (.int k4), .val (.ref b44), .unset, .unset, .unset, .unset, .unset] [(.int k3), (.int (2 : Int32)), (.ref b44)]))
      refine own_by (fun t k => XS.i2dS X46.here hx rfl (hb hby at_79) rfl (i2d_w _) k) ?_
      show own_Go p.tables e below K (T46.setTop (mkF m 80 #[.val (.int q1), .val (.int q2), .val (.int q3), .val (.int q4), .val (.int q5), .val (.int (4 : Int32)), .val (.int k1), .val (.int k2), .val (.int k3), .val (.int k4), .val (.ref b44), .unset, .unset, .unset, .unset, .unset] [(.double (FP.l2d k3.toInt64)), (.int (2 : Int32)), (.ref b44)]))
      refine own_by (fun t k => X46.ldc2DoubleC hx hown (mvT hZ (hw _ (List.mem_of_getElem? (i := 2) rfl))) (g := (mkF m 80 #[.val (.int q1), .val (.int q2), .val (.int q3), .val (.int q4), .val (.int q5), .val (.int (4 : Int32)), .val (.int k1), .val (.int k2), .val (.int k3), .val (.int k4), .val (.ref b44), .unset, .unset, .unset, .unset, .unset] [(.double (FP.l2d k3.toInt64)), (.int (2 : Int32)), (.ref b44)])) rfl (hb hby at_80) _ k) ?_
      show own_Go p.tables e below K (T46.setTop (mkF m 83 #[.val (.int q1), .val (.int q2), .val (.int q3), .val (.int q4), .val (.int q5), .val (.int (4 : Int32)), .val (.int k1), .val (.int k2), .val (.int k3), .val (.int k4), .val (.ref b44), .unset, .unset, .unset, .unset, .unset] [(.double (4620693217682128896 : UInt64)), (.double (FP.l2d k3.toInt64)), (.int (2 : Int32)), (.ref b44)]))
      refine own_by (fun t k => XS.ddivS X46.here hx rfl (hb hby at_83) rfl (own_fX hk3) rfl k) ?_
      show own_Go p.tables e below K (T46.setTop (mkF m 84 #[.val (.int q1), .val (.int q2), .val (.int q3), .val (.int q4), .val (.int q5), .val (.int (4 : Int32)), .val (.int k1), .val (.int k2), .val (.int k3), .val (.int k4), .val (.ref b44), .unset, .unset, .unset, .unset, .unset] [(.double (own_X k3)), (.int (2 : Int32)), (.ref b44)]))
      obtain ⟨cl47, Ar47, q47, S47, M47, H47, U47⟩ := id V46
      obtain ⟨T47, h47, X47, e47, W47, st47⟩ := stD X46 hx hZ e46 Ar47 (j := (2 : Int32)) (inb_of S47 ⟨by decide, by decide⟩) (g := (mkF m 84 #[.val (.int q1), .val (.int q2), .val (.int q3), .val (.int q4), .val (.int q5), .val (.int (4 : Int32)), .val (.int k1), .val (.int k2), .val (.int k3), .val (.int k4), .val (.ref b44), .unset, .unset, .unset, .unset, .unset] [(.double (own_X k3)), (.int (2 : Int32)), (.ref b44)])) rfl rfl (hb hby at_84)
      refine own_by st47 ?_
      have V47 : Arv Z h47 b44 k44 .double (4 : Int32) [(.double (own_X k1)), (.double (own_X k2)), (.double (own_X k3)), (.double (FP.l2d 0))] (.double (FP.l2d 0)) := Arv.set Ar47 q47 S47 M47 H47 U47 rfl W47 2 rfl (Nat.le_of_ble_eq_true rfl)
      have Z47 := Nat.le_trans Z46 (Keep.of_wr W47).1
      have N47 := Fr.snoc X47 N46 gn_b44
      show own_Go p.tables e below K (T47.setTop (mkF m 85 #[.val (.int q1), .val (.int q2), .val (.int q3), .val (.int q4), .val (.int q5), .val (.int (4 : Int32)), .val (.int k1), .val (.int k2), .val (.int k3), .val (.int k4), .val (.ref b44), .unset, .unset, .unset, .unset, .unset] []))
      refine own_by (fun t k => XS.aload X47.here hx rfl (hb hby at_85) rfl rfl k) ?_
      show own_Go p.tables e below K (T47.setTop (mkF m 87 #[.val (.int q1), .val (.int q2), .val (.int q3), .val (.int q4), .val (.int q5), .val (.int (4 : Int32)), .val (.int k1), .val (.int k2), .val (.int k3), .val (.int k4), .val (.ref b44), .unset, .unset, .unset, .unset, .unset] [(.ref b44)]))
      refine own_by (fun t k => XS.iconst X47.here hx rfl (hb hby at_87) k) ?_
      show own_Go p.tables e below K (T47.setTop (mkF m 88 #[.val (.int q1), .val (.int q2), .val (.int q3), .val (.int q4), .val (.int q5), .val (.int (4 : Int32)), .val (.int k1), .val (.int k2), .val (.int k3), .val (.int k4), .val (.ref b44), .unset, .unset, .unset, .unset, .unset] [(.int (3 : Int32)), (.ref b44)]))
      refine own_by (fun t k => XS.iload X47.here hx rfl (hb hby at_88) rfl k) ?_
      show own_Go p.tables e below K (T47.setTop (mkF m 90 #[.val (.int q1), .val (.int q2), .val (.int q3), .val (.int q4), .val (.int q5), .val (.int (4 : Int32)), .val (.int k1), .val (.int k2), .val (.int k3), .val (.int k4), .val (.ref b44), .unset, .unset, .unset, .unset, .unset] [(.int k4), (.int (3 : Int32)), (.ref b44)]))
      refine own_by (fun t k => XS.i2dS X47.here hx rfl (hb hby at_90) rfl (i2d_w _) k) ?_
      show own_Go p.tables e below K (T47.setTop (mkF m 91 #[.val (.int q1), .val (.int q2), .val (.int q3), .val (.int q4), .val (.int q5), .val (.int (4 : Int32)), .val (.int k1), .val (.int k2), .val (.int k3), .val (.int k4), .val (.ref b44), .unset, .unset, .unset, .unset, .unset] [(.double (FP.l2d k4.toInt64)), (.int (3 : Int32)), (.ref b44)]))
      refine own_by (fun t k => X47.ldc2DoubleC hx hown (mvT hZ (hw _ (List.mem_of_getElem? (i := 2) rfl))) (g := (mkF m 91 #[.val (.int q1), .val (.int q2), .val (.int q3), .val (.int q4), .val (.int q5), .val (.int (4 : Int32)), .val (.int k1), .val (.int k2), .val (.int k3), .val (.int k4), .val (.ref b44), .unset, .unset, .unset, .unset, .unset] [(.double (FP.l2d k4.toInt64)), (.int (3 : Int32)), (.ref b44)])) rfl (hb hby at_91) _ k) ?_
      show own_Go p.tables e below K (T47.setTop (mkF m 94 #[.val (.int q1), .val (.int q2), .val (.int q3), .val (.int q4), .val (.int q5), .val (.int (4 : Int32)), .val (.int k1), .val (.int k2), .val (.int k3), .val (.int k4), .val (.ref b44), .unset, .unset, .unset, .unset, .unset] [(.double (4620693217682128896 : UInt64)), (.double (FP.l2d k4.toInt64)), (.int (3 : Int32)), (.ref b44)]))
      refine own_by (fun t k => XS.ddivS X47.here hx rfl (hb hby at_94) rfl (own_fX hk4) rfl k) ?_
      show own_Go p.tables e below K (T47.setTop (mkF m 95 #[.val (.int q1), .val (.int q2), .val (.int q3), .val (.int q4), .val (.int q5), .val (.int (4 : Int32)), .val (.int k1), .val (.int k2), .val (.int k3), .val (.int k4), .val (.ref b44), .unset, .unset, .unset, .unset, .unset] [(.double (own_X k4)), (.int (3 : Int32)), (.ref b44)]))
      obtain ⟨cl48, Ar48, q48, S48, M48, H48, U48⟩ := id V47
      obtain ⟨T48, h48, X48, e48, W48, st48⟩ := stD X47 hx hZ e47 Ar48 (j := (3 : Int32)) (inb_of S48 ⟨by decide, by decide⟩) (g := (mkF m 95 #[.val (.int q1), .val (.int q2), .val (.int q3), .val (.int q4), .val (.int q5), .val (.int (4 : Int32)), .val (.int k1), .val (.int k2), .val (.int k3), .val (.int k4), .val (.ref b44), .unset, .unset, .unset, .unset, .unset] [(.double (own_X k4)), (.int (3 : Int32)), (.ref b44)])) rfl rfl (hb hby at_95)
      refine own_by st48 ?_
      have V48 : Arv Z h48 b44 k44 .double (4 : Int32) [(.double (own_X k1)), (.double (own_X k2)), (.double (own_X k3)), (.double (own_X k4))] (.double (FP.l2d 0)) := Arv.set Ar48 q48 S48 M48 H48 U48 rfl W48 3 rfl (Nat.le_of_ble_eq_true rfl)
      have Z48 := Nat.le_trans Z47 (Keep.of_wr W48).1
      have N48 := Fr.snoc X48 N47 gn_b44
      show own_Go p.tables e below K (T48.setTop (mkF m 96 #[.val (.int q1), .val (.int q2), .val (.int q3), .val (.int q4), .val (.int q5), .val (.int (4 : Int32)), .val (.int k1), .val (.int k2), .val (.int k3), .val (.int k4), .val (.ref b44), .unset, .unset, .unset, .unset, .unset] []))
      refine own_by (fun t k => XS.iconst X48.here hx rfl (hb hby at_96) k) ?_
      show own_Go p.tables e below K (T48.setTop (mkF m 97 #[.val (.int q1), .val (.int q2), .val (.int q3), .val (.int q4), .val (.int q5), .val (.int (4 : Int32)), .val (.int k1), .val (.int k2), .val (.int k3), .val (.int k4), .val (.ref b44), .unset, .unset, .unset, .unset, .unset] [(.int (0 : Int32))]))
      refine own_by (fun t k => XS.istore X48.here hx rfl (hb hby at_97) rfl (l' := #[.val (.int q1), .val (.int q2), .val (.int q3), .val (.int q4), .val (.int q5), .val (.int (4 : Int32)), .val (.int k1), .val (.int k2), .val (.int k3), .val (.int k4), .val (.ref b44), .val (.int (0 : Int32)), .unset, .unset, .unset, .unset]) rfl k) ?_
      show own_Go p.tables e below K (T48.setTop (mkF m 99 #[.val (.int q1), .val (.int q2), .val (.int q3), .val (.int q4), .val (.int q5), .val (.int (4 : Int32)), .val (.int k1), .val (.int k2), .val (.int k3), .val (.int k4), .val (.ref b44), .val (.int (0 : Int32)), .unset, .unset, .unset, .unset] []))
      refine own_by (fun t k => XS.iload X48.here hx rfl (hb hby at_99) rfl k) ?_
      show own_Go p.tables e below K (T48.setTop (mkF m 101 #[.val (.int q1), .val (.int q2), .val (.int q3), .val (.int q4), .val (.int q5), .val (.int (4 : Int32)), .val (.int k1), .val (.int k2), .val (.int k3), .val (.int k4), .val (.ref b44), .val (.int (0 : Int32)), .unset, .unset, .unset, .unset] [(.int (4 : Int32))]))
      refine own_by (fun t k => XS.iconst X48.here hx rfl (hb hby at_101) k) ?_
      show own_Go p.tables e below K (T48.setTop (mkF m 102 #[.val (.int q1), .val (.int q2), .val (.int q3), .val (.int q4), .val (.int q5), .val (.int (4 : Int32)), .val (.int k1), .val (.int k2), .val (.int k3), .val (.int k4), .val (.ref b44), .val (.int (0 : Int32)), .unset, .unset, .unset, .unset] [(.int (1 : Int32)), (.int (4 : Int32))]))
      have hc102 : (1 : Int32) < (4 : Int32) := by decide
      refine own_by (fun t k => XS.icmpYes X48.here hx rfl (pc0 := 102) (pc' := 115) rfl (hb hby at_102) rfl (tlt hc102).2.2.1 (by decide) (by decide) k) ?_
      show own_Go p.tables e below K (T48.setTop (mkF m 115 #[.val (.int q1), .val (.int q2), .val (.int q3), .val (.int q4), .val (.int q5), .val (.int (4 : Int32)), .val (.int k1), .val (.int k2), .val (.int k3), .val (.int k4), .val (.ref b44), .val (.int (0 : Int32)), .unset, .unset, .unset, .unset] []))
      refine own_by (fun t k => XS.iload X48.here hx rfl (hb hby at_115) rfl k) ?_
      show own_Go p.tables e below K (T48.setTop (mkF m 117 #[.val (.int q1), .val (.int q2), .val (.int q3), .val (.int q4), .val (.int q5), .val (.int (4 : Int32)), .val (.int k1), .val (.int k2), .val (.int k3), .val (.int k4), .val (.ref b44), .val (.int (0 : Int32)), .unset, .unset, .unset, .unset] [(.int (4 : Int32))]))
      refine own_by (fun t k => XS.iconst X48.here hx rfl (hb hby at_117) k) ?_
      show own_Go p.tables e below K (T48.setTop (mkF m 118 #[.val (.int q1), .val (.int q2), .val (.int q3), .val (.int q4), .val (.int q5), .val (.int (4 : Int32)), .val (.int k1), .val (.int k2), .val (.int k3), .val (.int k4), .val (.ref b44), .val (.int (0 : Int32)), .unset, .unset, .unset, .unset] [(.int (2 : Int32)), (.int (4 : Int32))]))
      have hc118 : (2 : Int32) < (4 : Int32) := by decide
      refine own_by (fun t k => XS.icmpYes X48.here hx rfl (pc0 := 118) (pc' := 131) rfl (hb hby at_118) rfl (tlt hc118).2.2.1 (by decide) (by decide) k) ?_
      show own_Go p.tables e below K (T48.setTop (mkF m 131 #[.val (.int q1), .val (.int q2), .val (.int q3), .val (.int q4), .val (.int q5), .val (.int (4 : Int32)), .val (.int k1), .val (.int k2), .val (.int k3), .val (.int k4), .val (.ref b44), .val (.int (0 : Int32)), .unset, .unset, .unset, .unset] []))
      refine own_by (fun t k => XS.iload X48.here hx rfl (hb hby at_131) rfl k) ?_
      show own_Go p.tables e below K (T48.setTop (mkF m 133 #[.val (.int q1), .val (.int q2), .val (.int q3), .val (.int q4), .val (.int q5), .val (.int (4 : Int32)), .val (.int k1), .val (.int k2), .val (.int k3), .val (.int k4), .val (.ref b44), .val (.int (0 : Int32)), .unset, .unset, .unset, .unset] [(.int (4 : Int32))]))
      refine own_by (fun t k => XS.iconst X48.here hx rfl (hb hby at_133) k) ?_
      show own_Go p.tables e below K (T48.setTop (mkF m 134 #[.val (.int q1), .val (.int q2), .val (.int q3), .val (.int q4), .val (.int q5), .val (.int (4 : Int32)), .val (.int k1), .val (.int k2), .val (.int k3), .val (.int k4), .val (.ref b44), .val (.int (0 : Int32)), .unset, .unset, .unset, .unset] [(.int (3 : Int32)), (.int (4 : Int32))]))
      have hc134 : (3 : Int32) < (4 : Int32) := by decide
      refine own_by (fun t k => XS.icmpYes X48.here hx rfl (pc0 := 134) (pc' := 147) rfl (hb hby at_134) rfl (tlt hc134).2.2.1 (by decide) (by decide) k) ?_
      show own_Go p.tables e below K (T48.setTop (mkF m 147 #[.val (.int q1), .val (.int q2), .val (.int q3), .val (.int q4), .val (.int q5), .val (.int (4 : Int32)), .val (.int k1), .val (.int k2), .val (.int k3), .val (.int k4), .val (.ref b44), .val (.int (0 : Int32)), .unset, .unset, .unset, .unset] []))
      refine own_by (fun t k => XS.iload X48.here hx rfl (hb hby at_147) rfl k) ?_
      show own_Go p.tables e below K (T48.setTop (mkF m 149 #[.val (.int q1), .val (.int q2), .val (.int q3), .val (.int q4), .val (.int q5), .val (.int (4 : Int32)), .val (.int k1), .val (.int k2), .val (.int k3), .val (.int k4), .val (.ref b44), .val (.int (0 : Int32)), .unset, .unset, .unset, .unset] [(.int (4 : Int32))]))
      refine own_by (fun t k => XS.iconst X48.here hx rfl (hb hby at_149) k) ?_
      show own_Go p.tables e below K (T48.setTop (mkF m 150 #[.val (.int q1), .val (.int q2), .val (.int q3), .val (.int q4), .val (.int q5), .val (.int (4 : Int32)), .val (.int k1), .val (.int k2), .val (.int k3), .val (.int k4), .val (.ref b44), .val (.int (0 : Int32)), .unset, .unset, .unset, .unset] [(.int (4 : Int32)), (.int (4 : Int32))]))
      have hc150 : ¬ ((4 : Int32) < (4 : Int32)) := by decide
      refine own_by (fun t k => XS.icmpNo X48.here hx rfl (hb hby at_150) rfl (flt hc150).2.2.1 k) ?_
      show own_Go p.tables e below K (T48.setTop (mkF m 153 #[.val (.int q1), .val (.int q2), .val (.int q3), .val (.int q4), .val (.int q5), .val (.int (4 : Int32)), .val (.int k1), .val (.int k2), .val (.int k3), .val (.int k4), .val (.ref b44), .val (.int (0 : Int32)), .unset, .unset, .unset, .unset] []))
      refine own_by (fun t k => XS.iload X48.here hx rfl (hb hby at_153) rfl k) ?_
      show own_Go p.tables e below K (T48.setTop (mkF m 155 #[.val (.int q1), .val (.int q2), .val (.int q3), .val (.int q4), .val (.int q5), .val (.int (4 : Int32)), .val (.int k1), .val (.int k2), .val (.int k3), .val (.int k4), .val (.ref b44), .val (.int (0 : Int32)), .unset, .unset, .unset, .unset] [(.int (0 : Int32))]))
      refine own_by (fun t k => XS.iload X48.here hx rfl (hb hby at_155) rfl k) ?_
      show own_Go p.tables e below K (T48.setTop (mkF m 157 #[.val (.int q1), .val (.int q2), .val (.int q3), .val (.int q4), .val (.int q5), .val (.int (4 : Int32)), .val (.int k1), .val (.int k2), .val (.int k3), .val (.int k4), .val (.ref b44), .val (.int (0 : Int32)), .unset, .unset, .unset, .unset] [(.int k4), (.int (0 : Int32))]))
      obtain ⟨_, _, ⟨T49, L49, k49, n49⟩, -, X49, ⟨Lc49, hQ49, l49, y49, z49⟩, st49⟩ := Jvm.LawKit.callS X48 hx (y := (⟨"com/example/manyfront/manyfront/problems/DtlzSphereDistancePinLaw", "sq", "(I)I"⟩ : MethodName)) hown (mvT hZ (hw _ (List.mem_of_getElem? (i := 3) rfl))) (mvT hZ (hw _ (List.mem_of_getElem? (i := 4) rfl))) (mvT hZ (hw _ (List.mem_of_getElem? (i := 5) rfl))) (mvT hZ (hw _ (List.mem_of_getElem? (i := 6) rfl))) (by decide) (backOf (W := 1) (own_rmsq l Z aw hw [] k4 h48 n0 Z48) hZ (hw _ (List.mem_of_getElem? (i := 6) rfl)) (hw _ (List.mem_of_getElem? (i := 5) rfl)) (by decide) (by decide)) (g := (mkF m 157 #[.val (.int q1), .val (.int q2), .val (.int q3), .val (.int q4), .val (.int q5), .val (.int (4 : Int32)), .val (.int k1), .val (.int k2), .val (.int k3), .val (.int k4), .val (.ref b44), .val (.int (0 : Int32)), .unset, .unset, .unset, .unset] [(.int k4), (.int (0 : Int32))])) rfl (by rw [hml]; rfl) (argsL := [(.int k4)]) (rest := [(.int (0 : Int32))]) (lenOf own_pd0 rfl) rfl (by show 2 * 0 + _ ≤ _; exact Nat.le_of_eq rfl) (hb hby at_157) (fun _ _ => ⟨rfl, e48, (by decide : 1 + 0 ≤ _), (by decide : 4 + 0 ≤ _)⟩)
      dsimp only [Pt.U, Pt.locs, Pt.cells, Pt.slots] at X49 l49 y49 z49 st49 hQ49
      subst l49 y49 z49
      obtain ⟨rfl, N49q, e49⟩ := hQ49
      have N49 := Fr.app N48 N49q
      refine own_by st49 ?_
      have hI50 := own_is_add (⟨0, by decide, rfl⟩ : own_is 0 0) (own_fM hk4).2
      show own_Go p.tables e below K (T49.setTop (mkF m 160 #[.val (.int q1), .val (.int q2), .val (.int q3), .val (.int q4), .val (.int q5), .val (.int (4 : Int32)), .val (.int k1), .val (.int k2), .val (.int k3), .val (.int k4), .val (.ref b44), .val (.int (0 : Int32)), .unset, .unset, .unset, .unset] [(.int (own_sq k4)), (.int (0 : Int32))]))
      refine own_by (fun t k => XS.iadd X49.here hx rfl (hb hby at_160) rfl k) ?_
      show own_Go p.tables e below K (T49.setTop (mkF m 161 #[.val (.int q1), .val (.int q2), .val (.int q3), .val (.int q4), .val (.int q5), .val (.int (4 : Int32)), .val (.int k1), .val (.int k2), .val (.int k3), .val (.int k4), .val (.ref b44), .val (.int (0 : Int32)), .unset, .unset, .unset, .unset] [(.int ((0 : Int32) + (own_sq k4)))]))
      refine own_by (fun t k => XS.istore X49.here hx rfl (hb hby at_161) rfl (l' := #[.val (.int q1), .val (.int q2), .val (.int q3), .val (.int q4), .val (.int q5), .val (.int (4 : Int32)), .val (.int k1), .val (.int k2), .val (.int k3), .val (.int k4), .val (.ref b44), .val (.int ((0 : Int32) + (own_sq k4))), .unset, .unset, .unset, .unset]) rfl k) ?_
      show own_Go p.tables e below K (T49.setTop (mkF m 163 #[.val (.int q1), .val (.int q2), .val (.int q3), .val (.int q4), .val (.int q5), .val (.int (4 : Int32)), .val (.int k1), .val (.int k2), .val (.int k3), .val (.int k4), .val (.ref b44), .val (.int ((0 : Int32) + (own_sq k4))), .unset, .unset, .unset, .unset] []))
      refine own_by (fun t k => XS.iload X49.here hx rfl (hb hby at_163) rfl k) ?_
      show own_Go p.tables e below K (T49.setTop (mkF m 165 #[.val (.int q1), .val (.int q2), .val (.int q3), .val (.int q4), .val (.int q5), .val (.int (4 : Int32)), .val (.int k1), .val (.int k2), .val (.int k3), .val (.int k4), .val (.ref b44), .val (.int ((0 : Int32) + (own_sq k4))), .unset, .unset, .unset, .unset] [(.int ((0 : Int32) + (own_sq k4)))]))
      refine own_by (fun t k => XS.i2dS X49.here hx rfl (hb hby at_165) rfl (i2d_w _) k) ?_
      show own_Go p.tables e below K (T49.setTop (mkF m 166 #[.val (.int q1), .val (.int q2), .val (.int q3), .val (.int q4), .val (.int q5), .val (.int (4 : Int32)), .val (.int k1), .val (.int k2), .val (.int k3), .val (.int k4), .val (.ref b44), .val (.int ((0 : Int32) + (own_sq k4))), .unset, .unset, .unset, .unset] [(.double (FP.l2d ((0 : Int32) + (own_sq k4)).toInt64))]))
      refine own_by (fun t k => X49.ldc2DoubleC hx hown (mvT hZ (hw _ (List.mem_of_getElem? (i := 7) rfl))) (g := (mkF m 166 #[.val (.int q1), .val (.int q2), .val (.int q3), .val (.int q4), .val (.int q5), .val (.int (4 : Int32)), .val (.int k1), .val (.int k2), .val (.int k3), .val (.int k4), .val (.ref b44), .val (.int ((0 : Int32) + (own_sq k4))), .unset, .unset, .unset, .unset] [(.double (FP.l2d ((0 : Int32) + (own_sq k4)).toInt64))])) rfl (hb hby at_166) _ k) ?_
      show own_Go p.tables e below K (T49.setTop (mkF m 169 #[.val (.int q1), .val (.int q2), .val (.int q3), .val (.int q4), .val (.int q5), .val (.int (4 : Int32)), .val (.int k1), .val (.int k2), .val (.int k3), .val (.int k4), .val (.ref b44), .val (.int ((0 : Int32) + (own_sq k4))), .unset, .unset, .unset, .unset] [(.double (4634204016564240384 : UInt64)), (.double (FP.l2d ((0 : Int32) + (own_sq k4)).toInt64))]))
      refine own_by (fun t k => XS.ddivS X49.here hx rfl (hb hby at_169) rfl (own_nT (own_up hI50 (by decide))) rfl k) ?_
      show own_Go p.tables e below K (T49.setTop (mkF m 170 #[.val (.int q1), .val (.int q2), .val (.int q3), .val (.int q4), .val (.int q5), .val (.int (4 : Int32)), .val (.int k1), .val (.int k2), .val (.int k3), .val (.int k4), .val (.ref b44), .val (.int ((0 : Int32) + (own_sq k4))), .unset, .unset, .unset, .unset] [(.double (own_T ((0 : Int32) + own_sq k4)))]))
      refine own_by (fun t k => XS.dstore X49.here hx rfl (hb hby at_170) rfl (l' := #[.val (.int q1), .val (.int q2), .val (.int q3), .val (.int q4), .val (.int q5), .val (.int (4 : Int32)), .val (.int k1), .val (.int k2), .val (.int k3), .val (.int k4), .val (.ref b44), .val (.int ((0 : Int32) + (own_sq k4))), .val (.double (own_T ((0 : Int32) + own_sq k4))), .second, .unset, .unset]) rfl k) ?_
      show own_Go p.tables e below K (T49.setTop (mkF m 172 #[.val (.int q1), .val (.int q2), .val (.int q3), .val (.int q4), .val (.int q5), .val (.int (4 : Int32)), .val (.int k1), .val (.int k2), .val (.int k3), .val (.int k4), .val (.ref b44), .val (.int ((0 : Int32) + (own_sq k4))), .val (.double (own_T ((0 : Int32) + own_sq k4))), .second, .unset, .unset] []))
      refine own_by (fun t k => XS.aload X49.here hx rfl (hb hby at_172) rfl rfl k) ?_
      show own_Go p.tables e below K (T49.setTop (mkF m 174 #[.val (.int q1), .val (.int q2), .val (.int q3), .val (.int q4), .val (.int q5), .val (.int (4 : Int32)), .val (.int k1), .val (.int k2), .val (.int k3), .val (.int k4), .val (.ref b44), .val (.int ((0 : Int32) + (own_sq k4))), .val (.double (own_T ((0 : Int32) + own_sq k4))), .second, .unset, .unset] [(.ref b44)]))
      refine own_by (fun t k => XS.iload X49.here hx rfl (hb hby at_174) rfl k) ?_
      show own_Go p.tables e below K (T49.setTop (mkF m 176 #[.val (.int q1), .val (.int q2), .val (.int q3), .val (.int q4), .val (.int q5), .val (.int (4 : Int32)), .val (.int k1), .val (.int k2), .val (.int k3), .val (.int k4), .val (.ref b44), .val (.int ((0 : Int32) + (own_sq k4))), .val (.double (own_T ((0 : Int32) + own_sq k4))), .second, .unset, .unset] [(.int (4 : Int32)), (.ref b44)]))
      obtain ⟨_, _, ⟨T51, L51, k51, n51⟩, -, X51, ⟨Lc51, hQ51, l51, y51, z51⟩, st51⟩ := Jvm.LawKit.callS X49 hx (y := (⟨"com/example/manyfront/manyfront/problems/Dtlz", "sphereDistance", "([DI)D"⟩ : MethodName)) hown (mvT hZ (hw _ (List.mem_of_getElem? (i := 8) rfl))) (mvT hZ (hw _ (List.mem_of_getElem? (i := 9) rfl))) (mvT hZ (hw _ (List.mem_of_getElem? (i := 10) rfl))) (mvT hZ (hw _ (List.mem_of_getElem? (i := 11) rfl))) (by decide) (backOf (W := 0) (own_rmsd4 l Z aw hw [] b44 _ k1 k2 k3 k4 h48 n0 Z48 V48 hk1 hk2 hk3 hk4) hZ (hw _ (List.mem_of_getElem? (i := 11) rfl)) (hw _ (List.mem_of_getElem? (i := 10) rfl)) (by decide) (by decide)) (g := (mkF m 176 #[.val (.int q1), .val (.int q2), .val (.int q3), .val (.int q4), .val (.int q5), .val (.int (4 : Int32)), .val (.int k1), .val (.int k2), .val (.int k3), .val (.int k4), .val (.ref b44), .val (.int ((0 : Int32) + (own_sq k4))), .val (.double (own_T ((0 : Int32) + own_sq k4))), .second, .unset, .unset] [(.int (4 : Int32)), (.ref b44)])) rfl (by rw [hml]; rfl) (argsL := [(.ref b44), (.int (4 : Int32))]) (rest := []) (lenOf own_pd1 rfl) rfl (by show 2 * 0 + _ ≤ _; exact Nat.le_of_eq rfl) (hb hby at_176) (fun _ _ => ⟨rfl, e49, (by decide : 1 + 0 ≤ _), (by decide : 4 + 0 ≤ _)⟩)
      dsimp only [Pt.U, Pt.locs, Pt.cells, Pt.slots] at X51 l51 y51 z51 st51 hQ51
      subst l51 y51 z51
      obtain ⟨rfl, N51q, e51⟩ := hQ51
      have N51 := Fr.app N49 N51q
      refine own_by st51 ?_
      show own_Go p.tables e below K (T51.setTop (mkF m 179 #[.val (.int q1), .val (.int q2), .val (.int q3), .val (.int q4), .val (.int q5), .val (.int (4 : Int32)), .val (.int k1), .val (.int k2), .val (.int k3), .val (.int k4), .val (.ref b44), .val (.int ((0 : Int32) + (own_sq k4))), .val (.double (own_T ((0 : Int32) + own_sq k4))), .second, .unset, .unset] [(.double (own_T ((0 : Int32) + own_sq k4)))]))
      refine own_by (fun t k => XS.dstore X51.here hx rfl (hb hby at_179) rfl (l' := #[.val (.int q1), .val (.int q2), .val (.int q3), .val (.int q4), .val (.int q5), .val (.int (4 : Int32)), .val (.int k1), .val (.int k2), .val (.int k3), .val (.int k4), .val (.ref b44), .val (.int ((0 : Int32) + (own_sq k4))), .val (.double (own_T ((0 : Int32) + own_sq k4))), .second, .val (.double (own_T ((0 : Int32) + own_sq k4))), .second]) rfl k) ?_
      show own_Go p.tables e below K (T51.setTop (mkF m 181 #[.val (.int q1), .val (.int q2), .val (.int q3), .val (.int q4), .val (.int q5), .val (.int (4 : Int32)), .val (.int k1), .val (.int k2), .val (.int k3), .val (.int k4), .val (.ref b44), .val (.int ((0 : Int32) + (own_sq k4))), .val (.double (own_T ((0 : Int32) + own_sq k4))), .second, .val (.double (own_T ((0 : Int32) + own_sq k4))), .second] []))
      refine own_by (fun t k => XS.dload X51.here hx rfl (hb hby at_181) rfl k) ?_
      show own_Go p.tables e below K (T51.setTop (mkF m 183 #[.val (.int q1), .val (.int q2), .val (.int q3), .val (.int q4), .val (.int q5), .val (.int (4 : Int32)), .val (.int k1), .val (.int k2), .val (.int k3), .val (.int k4), .val (.ref b44), .val (.int ((0 : Int32) + (own_sq k4))), .val (.double (own_T ((0 : Int32) + own_sq k4))), .second, .val (.double (own_T ((0 : Int32) + own_sq k4))), .second] [(.double (own_T ((0 : Int32) + own_sq k4)))]))
      refine own_by (fun t k => XS.dload X51.here hx rfl (hb hby at_183) rfl k) ?_
      show own_Go p.tables e below K (T51.setTop (mkF m 185 #[.val (.int q1), .val (.int q2), .val (.int q3), .val (.int q4), .val (.int q5), .val (.int (4 : Int32)), .val (.int k1), .val (.int k2), .val (.int k3), .val (.int k4), .val (.ref b44), .val (.int ((0 : Int32) + (own_sq k4))), .val (.double (own_T ((0 : Int32) + own_sq k4))), .second, .val (.double (own_T ((0 : Int32) + own_sq k4))), .second] [(.double (own_T ((0 : Int32) + own_sq k4))), (.double (own_T ((0 : Int32) + own_sq k4)))]))
      refine own_by (fun t k => XS.dcmpS X51.here hx rfl (hb hby at_185) rfl (dcmpV_self (own_nT (own_up hI50 (by decide))) _) k) ?_
      show own_Go p.tables e below K (T51.setTop (mkF m 186 #[.val (.int q1), .val (.int q2), .val (.int q3), .val (.int q4), .val (.int q5), .val (.int (4 : Int32)), .val (.int k1), .val (.int k2), .val (.int k3), .val (.int k4), .val (.ref b44), .val (.int ((0 : Int32) + (own_sq k4))), .val (.double (own_T ((0 : Int32) + own_sq k4))), .second, .val (.double (own_T ((0 : Int32) + own_sq k4))), .second] [(.int (0 : Int32))]))
      have hc186 : (0 : Int32) = (0 : Int32) := by decide
      refine own_by (fun t k => XS.ifNo X51.here hx rfl (hb hby at_186) rfl ((if0 _ _).trans (teq hc186).2) k) ?_
      show own_Go p.tables e below K (T51.setTop (mkF m 189 #[.val (.int q1), .val (.int q2), .val (.int q3), .val (.int q4), .val (.int q5), .val (.int (4 : Int32)), .val (.int k1), .val (.int k2), .val (.int k3), .val (.int k4), .val (.ref b44), .val (.int ((0 : Int32) + (own_sq k4))), .val (.double (own_T ((0 : Int32) + own_sq k4))), .second, .val (.double (own_T ((0 : Int32) + own_sq k4))), .second] []))
      refine own_by (fun t k => XS.iconst X51.here hx rfl (hb hby at_189) k) ?_
      show own_Go p.tables e below K (T51.setTop (mkF m 190 #[.val (.int q1), .val (.int q2), .val (.int q3), .val (.int q4), .val (.int q5), .val (.int (4 : Int32)), .val (.int k1), .val (.int k2), .val (.int k3), .val (.int k4), .val (.ref b44), .val (.int ((0 : Int32) + (own_sq k4))), .val (.double (own_T ((0 : Int32) + own_sq k4))), .second, .val (.double (own_T ((0 : Int32) + own_sq k4))), .second] [(.int (1 : Int32))]))
      refine own_by (fun t k => XS.goto X51.here hx rfl (pc0 := 190) (pc' := 194) rfl (hb hby at_190) (by decide) (by decide) k) ?_
      show own_Go p.tables e below K (T51.setTop (mkF m 194 #[.val (.int q1), .val (.int q2), .val (.int q3), .val (.int q4), .val (.int q5), .val (.int (4 : Int32)), .val (.int k1), .val (.int k2), .val (.int k3), .val (.int k4), .val (.ref b44), .val (.int ((0 : Int32) + (own_sq k4))), .val (.double (own_T ((0 : Int32) + own_sq k4))), .second, .val (.double (own_T ((0 : Int32) + own_sq k4))), .second] [(.int (1 : Int32))]))
      exact own_retZ X51 hx (t := .boolean) hret (by simp) (hb hby at_194) (hK (some (.int (1 : Int32))) X51 (fun h => by rw [hret] at h; cases h) (⟨rfl, N51⟩) (by decide) (by decide))
  exact J47 _ _ _ _ _ (own_three (own_mod q1 3 2 (by decide))) (own_mod q2 9 8 (by decide)) (own_mod q3 9 8 (by decide)) (own_mod q4 9 8 (by decide)) (own_mod q5 9 8 (by decide))
set_option maxRecDepth 65536 in
set_option maxHeartbeats 40000000 in
theorem own_comes {Post : Tables → Env → Array Value → State → Outcome → State → Prop} (hpost : ∀ tb e args s v u, (limb_1_1.after args s (.returned v) u = true ∧ limb_1_2.after args s (.returned v) u = true ∧ True) → FrameEnd s (.returned v) u (Jvm.fieldLocs frame_1_writes args s ++ Jvm.arrayLocs frame_1_arrays args s ++ Jvm.staticLocs frame_1_statics s) 16 128 → Post tb e args s (.returned v) u) :
    ArmFor flags0 classFile x code maxLocals ret World_1 tables_1 room_1 Calls_1 rest_1 Pre_1 Post := by
  intro l hfl _ _ p e ha hc hk s m args below hf hA hF happ hP
  obtain ⟨hcalls, hrest, hpre⟩ := hP
  obtain ⟨-, -, -, hnamed, -, -, -, hat⟩ := (Spec.applies_iff hf).mp happ
  obtain ⟨hg, hn⟩ := and_e (Cond.before_iff.mp (show (Jvm.Cond.and given_1 narrow_1).before args s = true from hpre))
  obtain ⟨hcount, g0⟩ := and_e hg
  obtain ⟨a0, g1⟩ := and_e g0
  obtain ⟨a1, g2⟩ := and_e g1
  obtain ⟨a2, g3⟩ := and_e g2
  obtain ⟨a3, g4⟩ := and_e g3
  obtain ⟨w0, w1, w2, w3, w4, rfl⟩ : ∃ w0 w1 w2 w3 w4 : Value, args = #[w0, w1, w2, w3, w4] := by
    have hs : args.size = 5 := by simpa [Cond.value, given_1] using hcount
    obtain ⟨L⟩ := args
    match L, hs with
    | [w0, w1, w2, w3, w4], _ => exact ⟨w0, w1, w2, w3, w4, rfl⟩
  have hw := fun d (hd : d ∈ tables_1) => atoms_spec (ws := Jvm.Cond.code x code maxLocals ret :: tables_1) hat d (List.mem_cons_of_mem _ hd)
  have hfit : Fit s := fun {y c} hc i hi => by
    obtain ⟨ha, rfl⟩ := Array.getElem?_eq_some_iff.mp hc
    have q := List.all_eq_true.mp ((Array.all_eq_true_iff_forall_mem.mp hF) _ (Array.getElem_mem ha)) i (List.mem_range.mpr hi)
    simpa [Array.getElem?_eq_getElem hi] using q
  obtain ⟨i0, ei0⟩ := is_v a0
  obtain rfl : w0 = (.int i0) := Option.some.inj ei0
  obtain ⟨i1, ei1⟩ := is_v a1
  obtain rfl : w1 = (.int i1) := Option.some.inj ei1
  obtain ⟨i2, ei2⟩ := is_v a2
  obtain rfl : w2 = (.int i2) := Option.some.inj ei2
  obtain ⟨i3, ei3⟩ := is_v a3
  obtain rfl : w3 = (.int i3) := Option.some.inj ei3
  obtain ⟨i4, ei4⟩ := is_v g4
  obtain rfl : w4 = (.int i4) := Option.some.inj ei4
  obtain ⟨n, o, h1, h2, h3, _, L, rfl, ⟨rfl, N⟩, hq⟩ := own_rm0 l s _ hw tables_1 i0 i1 i2 i3 i4 s.heap s.heap.size (Nat.le_refl _)  p e ha hc hk s m _ below hf ((Spec.applies_iff_loose hf).mp happ).1 ⟨rfl, State.Warmed39.refl s, rfl⟩ trivial
  refine ⟨n, _, h1, h2, h3, hpost _ _ _ _ _ _ ⟨Cond.after_iff.mpr rfl, Cond.after_iff.mpr (eq_i res_at (Term.int_eval (1)) rfl), trivial⟩ ⟨hq.1, hq.2.1, (hq.2.2.sift fun y hy => Or.inr (N y hy)).mono (by decide) (by decide)⟩⟩
theorem main_1_1 : Claimed_1_1 := own_comes fun _ _ _ _ _ _ h hF => ⟨h.1, hF⟩
theorem main_1_2 : Claimed_1_2 := own_comes fun _ _ _ _ _ _ h hF => ⟨h.2.1, hF⟩
end Jvm.Pilot.@@N@@
namespace Jvm.Pilot.@@N@@
open Jvm Jvm.ClassFile Sem Op Lib Jvm.Free Jvm.Stand Jvm.Pilot.@@N@@.Jvm.D
/-! MADE BY PROGRAM (witnessworld.py) out of the Statement's table words and the real class files: 13 classes; the members and pool entries that the words name. The judged class is class 1, her method 2. -/
namespace start1
open Jvm.ClassFile
def u (s : String) : CpInfo := .utf8 (stringToUtf16 s)
/-- a pool by its gaps: so many unusable entries, then the entry; so many at the end -/
def gap : Nat → List CpInfo → List CpInfo
  | 0, r => r
  | n + 1, r => .unusable :: gap n r
def poolList (es : List (Nat × CpInfo)) (last : Nat) : List CpInfo := es.foldr (fun e r => gap e.1 (e.2 :: r)) (gap last [])
def pool (es : List (Nat × CpInfo)) (last : Nat) : Array CpInfo := ⟨poolList es last⟩
def fileOf (pool : Array CpInfo) (this : Nat) (attrs : Array Attribute := #[]) (ms : Array MethodInfo := #[]) (fl : Nat := 33) (sup : Nat := 0) (ifs : Array Nat := #[]) (fds : Array FieldInfo := #[]) : ClassFile where
  minorVersion := 0
  majorVersion := 65
  constantPool := pool
  accessFlags := fl
  thisClass := this
  superClass := sup
  interfaces := ifs
  fields := fds
  methods := ms
  attributes := attrs
def plain (name : String) (sup : Option ClassId) : Class where
  name := name
  kind := .ordinary
  loader := none
  accessFlags := 33
  super := sup
  interfaces := #[]
  cf := none
  fields := #[]
  methods := #[]
  instanceTypes := #[]
  staticTypes := #[]
  resolved := #[]
  callSites := []
  init := .initialized
  statics := none
  mirror := none

def pool0 : Array CpInfo := pool [(5, u "<init>"), (0, u "()V"), (1, .class_ 10), (1, u "java/lang/Object")] 113

def k0m0 : Method := { name := "<init>", desc := "()V", sig := { parameters := [], returnType := none }, accessFlags := 1, code := none }
/-- java/lang/Object -/
def k0 : Class := { plain "java/lang/Object" none with
  accessFlags := 33
  interfaces := #[]
  cf := some (fileOf pool0 8 #[] #[{ accessFlags := 1, nameIndex := 5, descriptorIndex := 6, attributes := #[] }] 33 0 #[] #[])
  fields := #[]
  methods := #[k0m0]
  instanceTypes := #[]
  staticTypes := #[]
  resolved := Array.replicate 124 none
  statics := none }

def pool1 : Array CpInfo := pool [(2, .class_ 4), (1, u "java/lang/Object"), (0, u "<init>"), (0, u "()V"), (0, .integer 2147483647), (0, .double 4620693217682128896), (1, .methodref 11 12), (0, .class_ 13), (0, .nameAndType 14 15), (0, u "com/example/manyfront/manyfront/problems/DtlzSphereDistancePinLaw"), (0, u "sq"), (0, u "(I)I"), (0, .double 4634204016564240384), (1, .methodref 19 20), (0, .class_ 21), (0, .nameAndType 22 23), (0, u "com/example/manyfront/manyfront/problems/Dtlz"), (0, u "sphereDistance"), (0, u "([DI)D"), (2, u "law"), (0, u "(IIIII)Z")] 5

def k1m0 : Method := { name := "<init>", desc := "()V", sig := { parameters := [], returnType := none }, accessFlags := 1, code := none }
def k1c1 : Code := { maxStack := 2, maxLocals := 2, code := method_2_code, exceptionTable := #[], attributes := #[] }
def k1m1 : Method := { name := "sq", desc := "(I)I", sig := { parameters := [.int], returnType := some .int }, accessFlags := 10, code := some k1c1 }
def k1c2 : Code := { maxStack := 6, maxLocals := 16, code := code, exceptionTable := #[], attributes := #[] }
def k1m2 : Method := { name := "law", desc := "(IIIII)Z", sig := { parameters := [.int, .int, .int, .int, .int], returnType := some .boolean }, accessFlags := 9, code := some k1c2 }
/-- com/example/manyfront/manyfront/problems/DtlzSphereDistancePinLaw -/
def k1 : Class := { plain "com/example/manyfront/manyfront/problems/DtlzSphereDistancePinLaw" (some 0) with
  accessFlags := 49
  interfaces := #[]
  cf := some (fileOf pool1 11 #[] #[{ accessFlags := 1, nameIndex := 5, descriptorIndex := 6, attributes := #[] }, { accessFlags := 10, nameIndex := 14, descriptorIndex := 15, attributes := #[] }, { accessFlags := 9, nameIndex := 26, descriptorIndex := 27, attributes := #[] }] 49 2 #[] #[])
  fields := #[]
  methods := #[k1m0, k1m1, k1m2]
  instanceTypes := #[]
  staticTypes := #[]
  resolved := Array.replicate 33 none
  statics := none }

def pool2 : Array CpInfo := pool [(1, .class_ 2), (0, u "com/example/manyfront/manyfront/core/Problem"), (0, .class_ 4), (0, u "java/lang/Object")] 10

/-- com/example/manyfront/manyfront/core/Problem -/
def k2 : Class := { plain "com/example/manyfront/manyfront/core/Problem" (some 0) with
  accessFlags := 1537
  interfaces := #[]
  cf := some (fileOf pool2 1 #[] #[] 1537 3 #[] #[])
  fields := #[]
  methods := #[]
  instanceTypes := #[]
  staticTypes := #[]
  resolved := Array.replicate 15 none
  statics := none }

def pool3 : Array CpInfo := pool [(2, .class_ 4), (1, u "java/lang/Object"), (3, .class_ 10), (1, u "com/example/manyfront/manyfront/problems/ScalableProblem"), (0, u "objectives"), (0, u "I"), (2, u "variables"), (23, .class_ 40), (0, u "com/example/manyfront/manyfront/core/Problem")] 25

/-- com/example/manyfront/manyfront/problems/ScalableProblem -/
def k3 : Class := { plain "com/example/manyfront/manyfront/problems/ScalableProblem" (some 0) with
  accessFlags := 1056
  interfaces := #[2]
  cf := some (fileOf pool3 8 #[] #[] 1056 2 #[39] #[{ accessFlags := 18, nameIndex := 11, descriptorIndex := 12, attributes := #[] }, { accessFlags := 18, nameIndex := 15, descriptorIndex := 12, attributes := #[] }])
  fields := #[{ name := "objectives", type := .int, accessFlags := 18, slot := 0, constantValue := 0 }, { name := "variables", type := .int, accessFlags := 18, slot := 1, constantValue := 0 }]
  methods := #[]
  instanceTypes := #[.int, .int]
  staticTypes := #[]
  resolved := Array.replicate 66 none
  statics := none }

def pool4 : Array CpInfo := pool [(2, .class_ 4), (1, u "com/example/manyfront/manyfront/problems/ScalableProblem"), (15, .class_ 22), (1, u "com/example/manyfront/manyfront/problems/Dtlz"), (5, .double 4602678819172646912), (46, u "([DI)D"), (0, u "sphereDistance")] 41

def k4c0 : Code := { maxStack := 6, maxLocals := 7, code := prog_50_method_5_code, exceptionTable := #[], attributes := #[] }
def k4m0 : Method := { name := "sphereDistance", desc := "([DI)D", sig := { parameters := [(.array .double), .int], returnType := some .double }, accessFlags := 8, code := some k4c0 }
/-- com/example/manyfront/manyfront/problems/Dtlz -/
def k4 : Class := { plain "com/example/manyfront/manyfront/problems/Dtlz" (some 3) with
  accessFlags := 1056
  interfaces := #[]
  cf := some (fileOf pool4 20 #[] #[{ accessFlags := 8, nameIndex := 76, descriptorIndex := 75, attributes := #[] }] 1056 2 #[] #[])
  fields := #[]
  methods := #[k4m0]
  instanceTypes := #[.int, .int]
  staticTypes := #[]
  resolved := Array.replicate 118 none
  statics := none }

def pool5 : Array CpInfo := pool [(1, u "java/lang/Cloneable"), (0, .class_ 1), (0, u "java/lang/Object"), (0, .class_ 3)] 3

/-- java/lang/Cloneable -/
def k5 : Class := { plain "java/lang/Cloneable" (some 0) with
  accessFlags := 1537
  interfaces := #[]
  cf := some (fileOf pool5 2 #[] #[] 1537 4 #[] #[])
  fields := #[]
  methods := #[]
  instanceTypes := #[]
  staticTypes := #[]
  resolved := Array.replicate 8 none
  statics := none }

def pool6 : Array CpInfo := pool [(1, u "java/io/Serializable"), (0, .class_ 1), (0, u "java/lang/Object"), (0, .class_ 3)] 3

/-- java/io/Serializable -/
def k6 : Class := { plain "java/io/Serializable" (some 0) with
  accessFlags := 1537
  interfaces := #[]
  cf := some (fileOf pool6 2 #[] #[] 1537 4 #[] #[])
  fields := #[]
  methods := #[]
  instanceTypes := #[]
  staticTypes := #[]
  resolved := Array.replicate 8 none
  statics := none }

/-- the primitive byte -/
def k7 : Class := { plain "byte" none with kind := .primitive 'B', accessFlags := 0x411 }
/-- [B -/
def k8 : Class := { plain "[B" (some 0) with kind := .array 7 .byte, interfaces := #[5, 6], accessFlags := 1041 }

/-- the primitive double -/
def k9 : Class := { plain "double" none with kind := .primitive 'D', accessFlags := 0x411 }
/-- [D -/
def k10 : Class := { plain "[D" (some 0) with kind := .array 9 .double, interfaces := #[5, 6], accessFlags := 1041 }

/-- the primitive int -/
def k11 : Class := { plain "int" none with kind := .primitive 'I', accessFlags := 0x411 }
/-- [I -/
def k12 : Class := { plain "[I" (some 0) with kind := .array 11 .int, interfaces := #[5, 6], accessFlags := 1041 }

def heap : Heap := #[]
def classes : Array Class := #[k0, k1, k2, k3, k4, k5, k6, k7, k8, k9, k10, k11, k12]
def interned : List (Array UInt16 × Addr) := []
def slotsUsed : Nat := 0
def theMethod : MethodId := ⟨1, 2⟩
def args0 : Array Value := #[.int 1, .int 2, .int 3, .int 4, .int 5]
def aboutOver (below : List Frame) : State where
  vm := { classes := classes, interned := interned.toArray }
  heap := heap
  slotsUsed := slotsUsed
  threads := #[{ frames := .invoking theMethod args0 :: below }]
def below0 : List Frame := [.native { method := ⟨0, 0⟩, args := #[] }]
def about1 : State := aboutOver below0
def p0 : Program := .bare "" "" ""
def e0 : Env := launch0.env 0 0 0
theorem w_frames : about1.frames = Frame.invoking theMethod args0 :: below0 := rfl
set_option maxRecDepth 65536 in
theorem w_args : argsFit about1.vm theMethod args0 = true := by decide +kernel
set_option maxRecDepth 65536 in
theorem w_heap : heapFits about1 = true := by decide +kernel
set_option maxRecDepth 65536 in
theorem w_runnable : about1.curStatus? = some .runnable := by decide +kernel
set_option maxRecDepth 65536 in
theorem w_alone : about1.alone = true := by decide +kernel
set_option maxRecDepth 65536 in
theorem w_named : about1.methodNamed? x = some theMethod := by decide +kernel
set_option maxRecDepth 65536 in
theorem w_hears : about1.hears theMethod below0 = true := by decide +kernel
set_option maxRecDepth 65536 in
theorem w_ripe : about1.ripe theMethod args0 below0 = true := by decide +kernel
theorem w_running : about1.status = .running := rfl
set_option maxRecDepth 65536 in
theorem w_room : about1.hasRoom e0.platform room_1 = true :=
  launch0.hasRoom_least _ room_1 (by decide +kernel) (by decide +kernel) (by decide +kernel) (by decide +kernel) (by decide +kernel) (by decide +kernel)
theorem allAtoms_all (ts : List Jvm.Cond) (a : Array Jvm.Value) (st : Jvm.State) : (allAtoms ts).before a st = ts.all (fun c => c.before a st) := by
  induction ts with
  | nil => rfl
  | cons c t ih =>
    show (Jvm.Cond.and c (allAtoms t)).before a st = _
    rw [Jvm.Cond.before_and, ih, List.all_cons]
def words1 : List Jvm.Cond := Jvm.Cond.code x code maxLocals ret :: tables_1
/-- a 'code' word, met by the world's own term for the bytes: nothing is compared byte by byte -/
theorem code_word {y : MethodName} {bytes : ByteArray} {mx : Nat} {rt : Option FieldType} {a : Array Value} {s : State} {m : MethodId} {meth : Method} {c : Code} (h1 : s.methodNamed? y = some m) (h2 : s.vm.method? m = some meth) (h3 : meth.code = some c) (h4 : c.code = bytes)
    (h5 : (c.maxLocals == mx && c.exceptionTable.isEmpty && decide (c.maxStack ≤ mostOperands) && decide (meth.sig.returnType = rt) && !meth.locks && decide (parseMethodDescriptor y.desc = some meth.sig)) = true) : (Jvm.Cond.code y bytes mx rt).before a s = true := by
  simp only [Bool.and_eq_true, beq_iff_eq, Bool.not_eq_true', decide_eq_true_eq] at h5
  obtain ⟨⟨⟨⟨⟨g1, g2⟩, g3⟩, g4⟩, g5⟩, g6⟩ := h5
  simp [Cond.before, Cond.holds, Cond.value, h1, h2, h3, h4, g1, g2, g3, g4, g5, g6]
def isCode : Jvm.Cond → Bool
  | .code _ _ _ _ => true
  | _ => false
theorem all_split {L : List Jvm.Cond} {P : Jvm.Cond → Bool} (h1 : L.all (fun c => isCode c || P c) = true) (h2 : ∀ c ∈ L.filter isCode, P c = true) : L.all P = true := by
  refine List.all_eq_true.mpr fun c hc => ?_
  have h := List.all_eq_true.mp h1 c hc
  rcases Bool.eq_false_or_eq_true (isCode c) with hi | hi
  · exact h2 c (List.mem_filter.mpr ⟨hc, hi⟩)
  · simpa [hi] using h
set_option maxRecDepth 65536 in
theorem w_c0 : (Jvm.Cond.code x code maxLocals ret).before args0 about1 = true := code_word (m := ⟨1, 2⟩) (meth := k1m2) (c := k1c2) (by decide +kernel) rfl rfl rfl (by decide +kernel)
set_option maxRecDepth 65536 in
theorem w_c1 : (Jvm.Cond.code ({ cls := "com/example/manyfront/manyfront/problems/DtlzSphereDistancePinLaw", name := "sq", desc := "(I)I" } : Jvm.MethodName) method_2_code (2 : Nat) (Option.some Jvm.ClassFile.FieldType.int)).before args0 about1 = true := code_word (m := ⟨1, 1⟩) (meth := k1m1) (c := k1c1) (by decide +kernel) rfl rfl rfl (by decide +kernel)
set_option maxRecDepth 65536 in
theorem w_c2 : (Jvm.Cond.code ({ cls := "com/example/manyfront/manyfront/problems/Dtlz", name := "sphereDistance", desc := "([DI)D" } : Jvm.MethodName) prog_50_method_5_code (7 : Nat) (Option.some Jvm.ClassFile.FieldType.double)).before args0 about1 = true := code_word (m := ⟨4, 0⟩) (meth := k4m0) (c := k4c0) (by decide +kernel) rfl rfl rfl (by decide +kernel)
def codes1 : List Jvm.Cond := [Jvm.Cond.code x code maxLocals ret, Jvm.Cond.code ({ cls := "com/example/manyfront/manyfront/problems/DtlzSphereDistancePinLaw", name := "sq", desc := "(I)I" } : Jvm.MethodName) method_2_code (2 : Nat) (Option.some Jvm.ClassFile.FieldType.int), Jvm.Cond.code ({ cls := "com/example/manyfront/manyfront/problems/Dtlz", name := "sphereDistance", desc := "([DI)D" } : Jvm.MethodName) prog_50_method_5_code (7 : Nat) (Option.some Jvm.ClassFile.FieldType.double)]
set_option maxRecDepth 65536 in
theorem codes_eq : words1.filter isCode = codes1 := rfl
theorem w_codes : ∀ c ∈ words1.filter isCode, c.before args0 about1 = true := by
  rw [codes_eq]
  intro c hc
  simp only [codes1, List.mem_cons, List.not_mem_nil, or_false] at hc
  rcases hc with rfl | rfl | rfl
  · exact w_c0
  · exact w_c1
  · exact w_c2
set_option maxRecDepth 65536 in
theorem w_t1 : words1.all (fun c => isCode c || c.before args0 about1) = true := by decide +kernel
theorem w_tables : (allAtoms (Jvm.Cond.code x code maxLocals ret :: tables_1)).before args0 about1 = true := by
  rw [allAtoms_all]
  show words1.all (fun c => c.before args0 about1) = true
  refine all_split ?_ w_codes
  rw [w_t1]
set_option maxRecDepth 65536 in
theorem w_case : (Jvm.Cond.and given_1 narrow_1).before args0 about1 = true := by decide +kernel
theorem w_applies : (headSpec (Jvm.Cond.code x code maxLocals ret :: tables_1) room_1).applies x e0.platform about1 = true :=
  (Spec.applies_iff w_frames).mpr ⟨w_running, w_runnable, w_alone, w_named, w_hears, w_ripe, w_room, w_tables⟩
theorem atStart : AtStart classFile x code maxLocals ret World_1 tables_1 room_1 Calls_1 rest_1 Pre_1 launch0 p0 e0 about1 theMethod args0 below0 :=
  ⟨lists_1, trivial, launch0.admits_env _ _ _, launch0.least_env, fairChoices_fair.cas, fairChoices_fair.clock, w_frames, w_args, w_heap, w_applies, trivial, trivial, w_case⟩
end start1
theorem witness_1 : WitnessClaimed_1 := ⟨start1.p0, start1.e0, start1.about1, start1.theMethod, start1.args0, start1.below0, start1.atStart⟩
end Jvm.Pilot.@@N@@
