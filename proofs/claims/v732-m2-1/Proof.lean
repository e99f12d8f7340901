import JvmDerived
import JvmDerived.Pilot.@@N@@Statement
import JvmDerived.Pilot.@@N@@Code
set_option linter.unusedVariables false
set_option linter.unusedSimpArgs false
namespace Jvm.Pilot.@@N@@
open Jvm Jvm.ClassFile Sem Op Lib Jvm.Free Jvm.Stand Jvm.LawKit Jvm.RoadKit Bundle Jvm.Pilot.@@N@@.Jvm.D
/-- from U the run comes to a state of which K holds -/
def own_Go (tb : Tables) (e : Env) (below : List Frame) (K : State → Prop) (U : State) : Prop := ∃ t, Steps tb e below U t ∧ K t
theorem own_by {tb : Tables} {e : Env} {below : List Frame} {K : State → Prop} {U U' : State} (k : ∀ t, Steps tb e below U' t → Steps tb e below U t) (h : own_Go tb e below K U') : own_Go tb e below K U := by
  obtain ⟨t, a, b⟩ := h
  exact ⟨t, k t a, b⟩
/-- what a returning instruction needs: the frames that it leaves, and that K holds there -/
def own_Out (e : Env) (m : MethodId) (K : State → Prop) (T : State) (v : Option Value) : Prop := ∃ fs, (∀ (f : JFrame) (acts : List Action), f.method = m → f.locked = none → f.entered = [] → (doReturn e (T.setTop f) acts v).1 = T.setFrames fs) ∧ K (T.setFrames fs)
theorem own_met {l : Launch} {y : MethodName} {bytes : ByteArray} {ml : Nat} {ret : Option FieldType} {ws : List Jvm.Cond} {rm : Room} {as' : Array Value} {Z : State} {h0 : Heap} {k n : Nat} {Q : Option Value → Heap → List Loc → Prop} (hp : plainFor y = true)
    (body : ∀ (p : Program) (e : Env) (s : State) (m : MethodId) (below : List Frame) (meth : Method) (c : Code) (s₁ : State) (K : State → Prop), p.tables.exec = Jvm.exec → c.code = bytes → c.maxLocals = ml → s.vm.findClass y.cls = some m.cls → meth.name = y.name → meth.sig.returnType = ret →
      Z.Warmed39 s.vm → Stand p l e rm s m as' below meth c s₁ [] 0 0 → s₁.heap = h0 →
      (∀ (v : Option Value) {T : State} {L : List Loc} {k' n' : Nat}, Stand p l e rm s m as' below meth c T L k' n' → (meth.sig.returnType = none → v = none) → Q v T.heap L → k' ≤ k → n' ≤ n → own_Out e m K T v) →
      own_Go p.tables e below K (s₁.setTop (entryFrame m as' ml))) :
    MetFree l y (head1 (Jvm.Cond.code y bytes ml ret :: ws) rm) (fun a U => a = as' ∧ Z.Warmed39 U.vm ∧ U.heap = h0) (fun _ _ _ _ _ => True) (fun _ U o U' => ∃ v L, o = .returned v ∧ Q v U'.heap L ∧ FrameEnd U o U' L k n) := by
  refine MetFree.of_bodySF hp hisR ?_
  intro p e s m args below meth c s₁ Bd hml0 hP hK
  obtain ⟨rfl, hZ, hh⟩ := hP
  have hown : s.vm.findClass y.cls = some m.cls := findClass_of_methodNamed Bd.named
  obtain ⟨t, hs, o, h1, h2, h3⟩ := body p e s m below meth c s₁ (fun t => ∃ o, t.status = .running ∧ Ended t below o ∧ ∃ v L, o = .returned v ∧ Q v t.heap L ∧ FrameEnd s o t L k n) Bd.exec Bd.bytes hml0 hown (name_of_methodNamed Bd.named Bd.method).1 Bd.returns hZ (Stand.of_body Bd) (by rw [← hh, Bd.state]; rfl) (by
    intro v T L k' n' X hv hq hk hn
    obtain ⟨fs, hr, hrun, hended, hW, hsame⟩ := X.leave (v := v) hv
    exact ⟨fs, hr, _, hrun, hended, v, L, rfl, hq, ⟨_, rfl⟩, hW, hsame.mono hk hn⟩)
  exact ⟨t, o, hs, h1, h2, h3⟩
section OwnRet
variable {p : Program} {l : Launch} {e : Env} {R : Room} {s : State} {m : MethodId} {args : Array Value} {below : List Frame} {meth : Method} {c : Code} {T : State} {locs : List Loc} {cells slots : Nat} {K : State → Prop}
theorem own_retI (X : Stand p l e R s m args below meth c T locs cells slots) (hx : p.tables.exec = Jvm.exec) (hret : meth.sig.returnType = some .int) {pc : Nat} {Ls : Array Slot} {z : Int32} {rest : List Value} (hd : decode c.code pc = .ok (.ireturn, 1)) (hq : own_Out e m K T (some (.int z))) : own_Go p.tables e below K (T.setTop (mkF m pc Ls (.int z :: rest))) := by
  obtain ⟨fs, hr, hk⟩ := hq
  exact ⟨_, retOut X hx hret rfl (Or.inl ⟨rfl, Or.inl rfl, _, rfl⟩) hd hr, hk⟩
theorem own_retZ (X : Stand p l e R s m args below meth c T locs cells slots) (hx : p.tables.exec = Jvm.exec) {t : FieldType} (hret : meth.sig.returnType = some t) (ht : t = .boolean ∨ t = .byte ∨ t = .char ∨ t = .short) {pc : Nat} {Ls : Array Slot} {z : Int32} {rest : List Value} (hd : decode c.code pc = .ok (.ireturn, 1)) (hq : own_Out e m K T (some (.int (nar t z)))) : own_Go p.tables e below K (T.setTop (mkF m pc Ls (.int z :: rest))) := by
  obtain ⟨fs, hr, hk⟩ := hq
  exact ⟨_, retN X hx hret ht hd hr, hk⟩
theorem own_retJ (X : Stand p l e R s m args below meth c T locs cells slots) (hx : p.tables.exec = Jvm.exec) (hret : meth.sig.returnType = some .long) {pc : Nat} {Ls : Array Slot} {z : Int64} {rest : List Value} (hd : decode c.code pc = .ok (.lreturn, 1)) (hq : own_Out e m K T (some (.long z))) : own_Go p.tables e below K (T.setTop (mkF m pc Ls (.long z :: rest))) := by
  obtain ⟨fs, hr, hk⟩ := hq
  exact ⟨_, retOut X hx hret rfl (Or.inr (Or.inl ⟨rfl, rfl, _, rfl⟩)) hd hr, hk⟩
theorem own_retA (X : Stand p l e R s m args below meth c T locs cells slots) (hx : p.tables.exec = Jvm.exec) {t : FieldType} (hret : meth.sig.returnType = some t) (ht : t.isReference = true) {pc : Nat} {Ls : Array Slot} {w : Value} {rest : List Value} (hn : narrow t w = w) (hw : w.isRef = true) (hd : decode c.code pc = .ok (.areturn, 1)) (hq : own_Out e m K T (some w)) : own_Go p.tables e below K (T.setTop (mkF m pc Ls (w :: rest))) := by
  obtain ⟨fs, hr, hk⟩ := hq
  exact ⟨_, retOut X hx hret hn (Or.inr (Or.inr (Or.inr (Or.inr ⟨rfl, ht, hw⟩)))) hd hr, hk⟩
theorem own_retV (X : Stand p l e R s m args below meth c T locs cells slots) (hx : p.tables.exec = Jvm.exec) (hret : meth.sig.returnType = none) {pc : Nat} {Ls : Array Slot} (hd : decode c.code pc = .ok (.return_, 1)) (hq : own_Out e m K T none) : own_Go p.tables e below K (T.setTop (mkF m pc Ls [])) := by
  obtain ⟨fs, hr, hk⟩ := hq
  exact ⟨_, X.returnOut hx hret hd hr, hk⟩
end OwnRet
theorem own_nar {C : String} {w : Value} (h : w.isRef = true) : narrow (.object C) w = w := by cases w <;> rfl
theorem own_fit {C : String} {w : Value} (h : w.isRef = true) : fits (.object C) w = true := by cases w <;> first | rfl | (simp [Value.isRef] at h)
theorem own_more {p : Program} {l : Launch} {e : Env} {R : Room} {s : State} {m : MethodId} {args : Array Value} {below : List Frame} {meth : Method} {c : Code} {T : State} {locs : List Loc} {k n k' n' : Nat} (X : Stand p l e R s m args below meth c T locs k n) (hk : k ≤ k') (hn : n ≤ n') : Stand p l e R s m args below meth c T locs k' n' := { X with same := X.same.mono hk hn }
/-- a condition as 0 or 1 -/
def own_tern (x : Int32) : Int32 := if x = 0 then 0 else 1
theorem own_t0 {x : Int32} (h : x = 0) : own_tern x = 0 := if_pos h
theorem own_t1 {x : Int32} (h : ¬ x = 0) : own_tern x = 1 := if_neg h
theorem own_t01 (x : Int32) : own_tern x = 0 ∨ own_tern x = 1 := by unfold own_tern; split <;> simp
theorem own_nb {x : Int32} (h : x = 0 ∨ x = 1) : nar .boolean x = x := by rcases h with rfl | rfl <;> rfl
theorem own_b53 (x : Int32) : B53 x.toInt64 := by
  have h1 := x.toInt_lt; have h2 := x.le_toInt
  unfold B53
  rw [Int32.toInt_toInt64]
  omega
theorem own_i64 (x y : Int32) : x.toInt64 < y.toInt64 ↔ x < y := by rw [Int64.lt_iff_toInt_lt, Int32.lt_iff_toInt_lt, Int32.toInt_toInt64, Int32.toInt_toInt64]
theorem own_ni {x y : Int32} (h : ¬ x = y) {n : Int} (e : y.toInt = n) : ¬ x.toInt = n := fun q => h (Int32.toInt_inj.mp (q.trans e.symm))
theorem own_llt {x y : Int64} (h : x < y) : ifCond.holds .lt (lcmpW x y) = true ∧ ifCond.holds .ge (lcmpW x y) = false := by
  have q := tlt (by rw [lcW]; exact (lc_lt x y).mpr h : lcmpW x y < 0)
  exact ⟨(if0 _ _).trans q.1, (if0 _ _).trans q.2.1⟩
theorem own_lge {x y : Int64} (h : ¬ x < y) : ifCond.holds .lt (lcmpW x y) = false ∧ ifCond.holds .ge (lcmpW x y) = true := by
  have q := flt (by rw [lcW]; exact fun z => h ((lc_lt x y).mp z) : ¬ lcmpW x y < 0)
  exact ⟨(if0 _ _).trans q.1, (if0 _ _).trans q.2.1⟩
theorem own_lgt {x y : Int64} (h : y < x) : ifCond.holds .gt (lcmpW x y) = true ∧ ifCond.holds .le (lcmpW x y) = false := by
  have q := tlt (by rw [lcW]; exact (lc_gt x y).mpr h : 0 < lcmpW x y)
  exact ⟨(if0 _ _).trans q.2.2.1, (if0 _ _).trans q.2.2.2⟩
theorem own_lle {x y : Int64} (h : ¬ y < x) : ifCond.holds .gt (lcmpW x y) = false ∧ ifCond.holds .le (lcmpW x y) = true := by
  have q := flt (by rw [lcW]; exact fun z => h ((lc_gt x y).mp z) : ¬ 0 < lcmpW x y)
  exact ⟨(if0 _ _).trans q.2.2.1, (if0 _ _).trans q.2.2.2⟩
theorem own_leq {x y : Int64} (h : x = y) : ifCond.holds .eq (lcmpW x y) = true ∧ ifCond.holds .ne (lcmpW x y) = false := by
  have q := teq (by rw [lcW]; exact (lc_eq x y).mpr h : lcmpW x y = 0)
  exact ⟨(if0 _ _).trans q.1, (if0 _ _).trans q.2⟩
theorem own_lne {x y : Int64} (h : ¬ x = y) : ifCond.holds .eq (lcmpW x y) = false ∧ ifCond.holds .ne (lcmpW x y) = true := by
  have q := feq (by rw [lcW]; exact fun z => h ((lc_eq x y).mp z) : ¬ lcmpW x y = 0)
  exact ⟨(if0 _ _).trans q.1, (if0 _ _).trans q.2⟩
def own_ush (x : Int64) (k : Int32) : Int64 := (x.toUInt64 >>> (k &&& 0x3f).toInt64.toUInt64).toInt64
theorem own_inv (k j : Int32) (n : Nat) (z : Int64) (hk : (k &&& 0x3f).toInt64.toUInt64.toNat = n) (hj : (j &&& 0x3f).toInt64.toUInt64.toNat = 2 * n) (h1 : 64 ≤ 3 * n) (h2 : 2 * n < 64) :
    ((z ^^^ own_ush z k) ^^^ own_ush (z ^^^ own_ush z k) k) ^^^ own_ush (z ^^^ own_ush z k) j = z := by
  have e : ∀ (x : Int64) (i : Int32) (c : Nat), (i &&& 0x3f).toInt64.toUInt64.toNat = c → c < 64 → (own_ush x i).toBitVec = x.toBitVec >>> c := by
    intro x i c hc hl
    show (x.toUInt64 >>> (i &&& 0x3f).toInt64.toUInt64).toBitVec = _
    apply BitVec.eq_of_toNat_eq
    show (x.toUInt64 >>> (i &&& 0x3f).toInt64.toUInt64).toNat = _
    rw [UInt64.toNat_shiftRight, hc, Nat.mod_eq_of_lt hl]
    rfl
  apply Int64.toBitVec_inj.mp
  simp only [Int64.toBitVec_xor]
  rw [e _ k n hk (by omega), e _ j (2 * n) hj h2, e _ k n hk (by omega)]
  simp only [Int64.toBitVec_xor]
  rw [e _ k n hk (by omega)]
  generalize z.toBitVec = b
  apply BitVec.eq_of_getLsbD_eq
  intro i hi
  simp only [BitVec.getLsbD_xor, BitVec.getLsbD_ushiftRight]
  have r1 : b.getLsbD (n + (2 * n + i)) = false := BitVec.getLsbD_of_ge _ _ (by omega)
  have r2 : n + (n + i) = 2 * n + i := by omega
  rw [r1, r2]
  cases b.getLsbD i <;> cases b.getLsbD (n + i) <;> cases b.getLsbD (2 * n + i) <;> rfl
def own_mix (z : Int64) : Int64 := let z1 := (z ^^^ own_ush z 30) * (-4658895280553007687); let z2 := (z1 ^^^ own_ush z1 27) * (-7723592293110705685); z2 ^^^ own_ush z2 31
def own_unmix (r : Int64) : Int64 := let z1 := ((r ^^^ own_ush r 31) ^^^ own_ush r 62) * (3573116690164977347); let z2 := ((z1 ^^^ own_ush z1 27) ^^^ own_ush z1 54) * (-7575587736534282103); (z2 ^^^ own_ush z2 30) ^^^ own_ush z2 60
theorem own_un (z : Int64) : own_unmix (own_mix z) = z := by
  have i1 := fun z => own_inv 31 62 31 z (by decide) (by decide) (by decide) (by decide)
  have i2 := fun z => own_inv 27 54 27 z (by decide) (by decide) (by decide) (by decide)
  have i3 := fun z => own_inv 30 60 30 z (by decide) (by decide) (by decide) (by decide)
  unfold own_unmix own_mix
  simp only []
  rw [i1, Int64.mul_assoc, show (-7723592293110705685 : Int64) * 3573116690164977347 = 1 by decide, Int64.mul_one, i2, Int64.mul_assoc, show (-4658895280553007687 : Int64) * (-7575587736534282103) = 1 by decide, Int64.mul_one, i3]
def own_m1 (z : Int64) : Int64 := (z ^^^ own_ush z 30) * (-4658895280553007687)
def own_m2 (z : Int64) : Int64 := (z ^^^ own_ush z 27) * (-7723592293110705685)
def own_u1 (r : Int64) : Int64 := ((r ^^^ own_ush r 31) ^^^ own_ush r 62)
def own_u2 (z : Int64) : Int64 := ((z ^^^ own_ush z 27) ^^^ own_ush z 54)
def own_u3 (z : Int64) : Int64 := ((z ^^^ own_ush z 30) ^^^ own_ush z 60)
theorem own_pn1 : plainName "com/example/manyfront/manyfront/core/RandomStream" = true := by first | (simp [plainName, overriddenIn]; done) | decide +kernel
theorem own_d1_0 : decode prog_14_method_1_code 0 = .ok (.aload_n 0, 1) := by decide +kernel
theorem own_d1_1 : decode prog_14_method_1_code 1 = .ok (.invokespecial 1, 3) := by decide +kernel
theorem own_d1_4 : decode prog_14_method_1_code 4 = .ok (.aload_n 0, 1) := by decide +kernel
theorem own_d1_5 : decode prog_14_method_1_code 5 = .ok (.lload_n 1, 1) := by decide +kernel
theorem own_d1_6 : decode prog_14_method_1_code 6 = .ok (.putfield 7, 3) := by decide +kernel
theorem own_d1_9 : decode prog_14_method_1_code 9 = .ok (.return_, 1) := by decide +kernel
theorem own_ef1 (m : MethodId) (a1 : Addr) (q1 : Int64) : entryFrame m #[(.ref a1), (.long q1)] 3 = mkF m 0 #[.val (.ref a1), .val (.long q1), .second] [] := by first | (simp [entryFrame, mkF, argsToLocals, Value.category]; done) | rfl
def own_Q1 (Z : State) (a1 : Addr) (q1 : Int64) (q0 : Int64) (h0 : Heap) (n0 : Nat) (v : Option Value) (h : Heap) (L : List Loc) : Prop := v = none ∧ Fr n0 L ∧ Keep h0 h [a1] ∧ Exa Z h a1 "com/example/manyfront/manyfront/core/RandomStream" ∧ Fld Z h a1 "com/example/manyfront/manyfront/core/RandomStream" "state" "J" (.long q1)
set_option maxRecDepth 65536 in
set_option maxHeartbeats 40000000 in
theorem own_rm1 (l : Launch) (Z : State) (a0 : Array Value) (hw : ∀ d ∈ tables_1, d.before a0 Z = true) (ws : List Jvm.Cond) (a1 : Addr) (q1 : Int64) (q0 : Int64) (h0 : Heap) (n0 : Nat) (Z0 : n0 ≤ h0.size) (E0 : Exa Z h0 a1 "com/example/manyfront/manyfront/core/RandomStream") (F0 : Fld Z h0 a1 "com/example/manyfront/manyfront/core/RandomStream" "state" "J" (.long q0)) (ga : n0 ≤ a1) :
    MetFree l (⟨"com/example/manyfront/manyfront/core/RandomStream", "<init>", "(J)V"⟩ : MethodName) (head1 (Jvm.Cond.code (⟨"com/example/manyfront/manyfront/core/RandomStream", "<init>", "(J)V"⟩ : MethodName) prog_14_method_1_code 3 none :: ws) ({ frames := 1, cells := 0, slots := 0, locals := 12 } : Room)) (fun a U => a = #[(.ref a1), (.long q1)] ∧ Z.Warmed39 U.vm ∧ U.heap = h0) (fun _ _ _ _ _ => True) (fun _ U o U' => ∃ v L, o = .returned v ∧ own_Q1 Z a1 q1 q0 h0 n0 v U'.heap L ∧ FrameEnd U o U' L ({ frames := 1, cells := 0, slots := 0, locals := 12 } : Room).cells ({ frames := 1, cells := 0, slots := 0, locals := 12 } : Room).slots) := by
  refine own_met (Q := own_Q1 Z a1 q1 q0 h0 n0) (plainFor_of_name own_pn1) ?_
  intro p e s m below meth c s₁ K hx hby hml hown hnm hret hZ X0 e0 hK
  have hown : s.vm.findClass "com/example/manyfront/manyfront/core/RandomStream" = some m.cls := hown
  have hnm : meth.name = "<init>" := hnm
  have N0 := Fr.nil n0
  refine own_by (fun t k => castTop (own_ef1 m a1 q1) k) ?_
  show own_Go p.tables e below K (s₁.setTop (mkF m 0 #[.val (.ref a1), .val (.long q1), .second] []))
  refine own_by (fun t k => XS.aloadN X0.here hx rfl (hb hby own_d1_0) rfl rfl k) ?_
  show own_Go p.tables e below K (s₁.setTop (mkF m 1 #[.val (.ref a1), .val (.long q1), .second] [(.ref a1)]))
  obtain ⟨T1, X1, e1, st1⟩ := initO X0 hx hZ hown (hw _ (List.mem_of_getElem? (i := 6) rfl)) (hw _ (List.mem_of_getElem? (i := 7) rfl)) (hw _ (List.mem_of_getElem? (i := 8) rfl)) e0 (g := (mkF m 1 #[.val (.ref a1), .val (.long q1), .second] [(.ref a1)])) rfl (by rw [hml]; rfl) rfl (hb hby own_d1_1) (by decide) (W := 0) (by show 2 * 0 + _ ≤ _; exact Nat.le_of_eq rfl) (by decide)
  refine own_by st1 ?_
  show own_Go p.tables e below K (T1.setTop (mkF m 4 #[.val (.ref a1), .val (.long q1), .second] []))
  refine own_by (fun t k => XS.aloadN X1.here hx rfl (hb hby own_d1_4) rfl rfl k) ?_
  show own_Go p.tables e below K (T1.setTop (mkF m 5 #[.val (.ref a1), .val (.long q1), .second] [(.ref a1)]))
  refine own_by (fun t k => XS.lloadN X1.here hx rfl (hb hby own_d1_5) rfl k) ?_
  show own_Go p.tables e below K (T1.setTop (mkF m 6 #[.val (.ref a1), .val (.long q1), .second] [(.long q1), (.ref a1)]))
  obtain ⟨T2, h2, X2, e2, W2, st2⟩ := putF X1 hx hZ hown (host := "") (Or.inl (hw _ (List.mem_of_getElem? (i := 9) rfl))) Via.refl e1 F0 E0 (Or.inl (hw _ (List.mem_of_getElem? (i := 10) rfl))) (hw _ (List.mem_of_getElem? (i := 1) rfl)) (ty := .long) (by decide) rfl rfl (g := (mkF m 6 #[.val (.ref a1), .val (.long q1), .second] [(.long q1), (.ref a1)])) rfl rfl (hb hby own_d1_6)
  refine own_by st2 ?_
  have F2_state_a1 := F0.same W2
  have Ex2_a1 := E0.wr W2
  have K2 := (Keep.refl h0 [a1]).wr W2 (Or.inl (by simp))
  have Z2 := Nat.le_trans Z0 (Keep.of_wr W2).1
  have N2 := Fr.snoc X2 N0 ga
  show own_Go p.tables e below K (T2.setTop (mkF m 9 #[.val (.ref a1), .val (.long q1), .second] []))
  exact own_retV X2 hx hret (hb hby own_d1_9) (hK none X2 (fun _ => rfl) (by rw [e2]; exact ⟨rfl, N2, K2, Ex2_a1, F2_state_a1⟩) (by decide) (by decide))
theorem own_d3_0 : decode prog_14_method_2_code 0 = .ok (.aload_n 0, 1) := by decide +kernel
theorem own_d3_1 : decode prog_14_method_2_code 1 = .ok (.dup, 1) := by decide +kernel
theorem own_d3_2 : decode prog_14_method_2_code 2 = .ok (.getfield 7, 3) := by decide +kernel
theorem own_d3_5 : decode prog_14_method_2_code 5 = .ok (.ldc2_w 13, 3) := by decide +kernel
theorem own_d3_8 : decode prog_14_method_2_code 8 = .ok (.ladd, 1) := by decide +kernel
theorem own_d3_9 : decode prog_14_method_2_code 9 = .ok (.putfield 7, 3) := by decide +kernel
theorem own_d3_12 : decode prog_14_method_2_code 12 = .ok (.aload_n 0, 1) := by decide +kernel
theorem own_d3_13 : decode prog_14_method_2_code 13 = .ok (.getfield 7, 3) := by decide +kernel
theorem own_d3_16 : decode prog_14_method_2_code 16 = .ok (.lstore_n 1, 1) := by decide +kernel
theorem own_d3_17 : decode prog_14_method_2_code 17 = .ok (.lload_n 1, 1) := by decide +kernel
theorem own_d3_18 : decode prog_14_method_2_code 18 = .ok (.lload_n 1, 1) := by decide +kernel
theorem own_d3_19 : decode prog_14_method_2_code 19 = .ok (.bipush 30, 2) := by decide +kernel
theorem own_d3_21 : decode prog_14_method_2_code 21 = .ok (.lushr, 1) := by decide +kernel
theorem own_d3_22 : decode prog_14_method_2_code 22 = .ok (.lxor, 1) := by decide +kernel
theorem own_d3_23 : decode prog_14_method_2_code 23 = .ok (.ldc2_w 15, 3) := by decide +kernel
theorem own_d3_26 : decode prog_14_method_2_code 26 = .ok (.lmul, 1) := by decide +kernel
theorem own_d3_27 : decode prog_14_method_2_code 27 = .ok (.lstore_n 1, 1) := by decide +kernel
theorem own_d3_28 : decode prog_14_method_2_code 28 = .ok (.lload_n 1, 1) := by decide +kernel
theorem own_d3_29 : decode prog_14_method_2_code 29 = .ok (.lload_n 1, 1) := by decide +kernel
theorem own_d3_30 : decode prog_14_method_2_code 30 = .ok (.bipush 27, 2) := by decide +kernel
theorem own_d3_32 : decode prog_14_method_2_code 32 = .ok (.lushr, 1) := by decide +kernel
theorem own_d3_33 : decode prog_14_method_2_code 33 = .ok (.lxor, 1) := by decide +kernel
theorem own_d3_34 : decode prog_14_method_2_code 34 = .ok (.ldc2_w 17, 3) := by decide +kernel
theorem own_d3_37 : decode prog_14_method_2_code 37 = .ok (.lmul, 1) := by decide +kernel
theorem own_d3_38 : decode prog_14_method_2_code 38 = .ok (.lstore_n 1, 1) := by decide +kernel
theorem own_d3_39 : decode prog_14_method_2_code 39 = .ok (.lload_n 1, 1) := by decide +kernel
theorem own_d3_40 : decode prog_14_method_2_code 40 = .ok (.lload_n 1, 1) := by decide +kernel
theorem own_d3_41 : decode prog_14_method_2_code 41 = .ok (.bipush 31, 2) := by decide +kernel
theorem own_d3_43 : decode prog_14_method_2_code 43 = .ok (.lushr, 1) := by decide +kernel
theorem own_d3_44 : decode prog_14_method_2_code 44 = .ok (.lxor, 1) := by decide +kernel
theorem own_d3_45 : decode prog_14_method_2_code 45 = .ok (.lreturn, 1) := by decide +kernel
theorem own_ef2 (m : MethodId) (a1 : Addr) : entryFrame m #[(.ref a1)] 3 = mkF m 0 #[.val (.ref a1), .unset, .unset] [] := by first | (simp [entryFrame, mkF, argsToLocals, Value.category]; done) | rfl
def own_Q2 (Z : State) (a1 : Addr) (q0 : Int64) (h0 : Heap) (n0 : Nat) (v : Option Value) (h : Heap) (L : List Loc) : Prop := v = some (.long (own_mix (q0 + (-7046029254386353131 : Int64)))) ∧ Fr n0 L ∧ Keep h0 h [a1] ∧ Exa Z h a1 "com/example/manyfront/manyfront/core/RandomStream" ∧ Fld Z h a1 "com/example/manyfront/manyfront/core/RandomStream" "state" "J" (.long (q0 + (-7046029254386353131 : Int64)))
set_option maxRecDepth 65536 in
set_option maxHeartbeats 40000000 in
theorem own_rm2 (l : Launch) (Z : State) (a0 : Array Value) (hw : ∀ d ∈ tables_1, d.before a0 Z = true) (ws : List Jvm.Cond) (a1 : Addr) (q0 : Int64) (h0 : Heap) (n0 : Nat) (Z0 : n0 ≤ h0.size) (E0 : Exa Z h0 a1 "com/example/manyfront/manyfront/core/RandomStream") (F0 : Fld Z h0 a1 "com/example/manyfront/manyfront/core/RandomStream" "state" "J" (.long q0)) (ga : n0 ≤ a1) :
    MetFree l (⟨"com/example/manyfront/manyfront/core/RandomStream", "nextLong", "()J"⟩ : MethodName) (head1 (Jvm.Cond.code (⟨"com/example/manyfront/manyfront/core/RandomStream", "nextLong", "()J"⟩ : MethodName) prog_14_method_2_code 3 (some .long) :: ws) ({ frames := 0, cells := 0, slots := 0, locals := 0 } : Room)) (fun a U => a = #[(.ref a1)] ∧ Z.Warmed39 U.vm ∧ U.heap = h0) (fun _ _ _ _ _ => True) (fun _ U o U' => ∃ v L, o = .returned v ∧ own_Q2 Z a1 q0 h0 n0 v U'.heap L ∧ FrameEnd U o U' L ({ frames := 0, cells := 0, slots := 0, locals := 0 } : Room).cells ({ frames := 0, cells := 0, slots := 0, locals := 0 } : Room).slots) := by
  refine own_met (Q := own_Q2 Z a1 q0 h0 n0) (plainFor_of_name own_pn1) ?_
  intro p e s m below meth c s₁ K hx hby hml hown hnm hret hZ X0 e0 hK
  have hown : s.vm.findClass "com/example/manyfront/manyfront/core/RandomStream" = some m.cls := hown
  have N0 := Fr.nil n0
  refine own_by (fun t k => castTop (own_ef2 m a1) k) ?_
  show own_Go p.tables e below K (s₁.setTop (mkF m 0 #[.val (.ref a1), .unset, .unset] []))
  refine own_by (fun t k => XS.aloadN X0.here hx rfl (hb hby own_d3_0) rfl rfl k) ?_
  show own_Go p.tables e below K (s₁.setTop (mkF m 1 #[.val (.ref a1), .unset, .unset] [(.ref a1)]))
  refine own_by (fun t k => XS.dup X0.here hx rfl (hb hby own_d3_1) rfl rfl k) ?_
  show own_Go p.tables e below K (s₁.setTop (mkF m 2 #[.val (.ref a1), .unset, .unset] [(.ref a1), (.ref a1)]))
  obtain ⟨T3, X3, e3, st3⟩ := getF X0 hx hZ hown (host := "") (Or.inl (hw _ (List.mem_of_getElem? (i := 9) rfl))) Via.refl e0 F0 (g := (mkF m 2 #[.val (.ref a1), .unset, .unset] [(.ref a1), (.ref a1)])) rfl rfl (hb hby own_d3_2)
  refine own_by st3 ?_
  show own_Go p.tables e below K (T3.setTop (mkF m 5 #[.val (.ref a1), .unset, .unset] [(.long q0), (.ref a1)]))
  refine own_by (fun t k => X3.ldc2Long hx hown (mvT hZ (hw _ (List.mem_of_getElem? (i := 16) rfl))) (g := (mkF m 5 #[.val (.ref a1), .unset, .unset] [(.long q0), (.ref a1)])) rfl (hb hby own_d3_5) _ k) ?_
  show own_Go p.tables e below K (T3.setTop (mkF m 8 #[.val (.ref a1), .unset, .unset] [(.long (-7046029254386353131 : Int64)), (.long q0), (.ref a1)]))
  refine own_by (fun t k => XS.ladd X3.here hx rfl (hb hby own_d3_8) rfl k) ?_
  show own_Go p.tables e below K (T3.setTop (mkF m 9 #[.val (.ref a1), .unset, .unset] [(.long (q0 + (-7046029254386353131 : Int64))), (.ref a1)]))
  obtain ⟨T4, h4, X4, e4, W4, st4⟩ := putF X3 hx hZ hown (host := "") (Or.inl (hw _ (List.mem_of_getElem? (i := 9) rfl))) Via.refl e3 F0 E0 (Or.inl (hw _ (List.mem_of_getElem? (i := 10) rfl))) (hw _ (List.mem_of_getElem? (i := 1) rfl)) (ty := .long) (by decide) rfl rfl (g := (mkF m 9 #[.val (.ref a1), .unset, .unset] [(.long (q0 + (-7046029254386353131 : Int64))), (.ref a1)])) rfl rfl (hb hby own_d3_9)
  refine own_by st4 ?_
  have F4_state_a1 := F0.same W4
  have Ex4_a1 := E0.wr W4
  have K4 := (Keep.refl h0 [a1]).wr W4 (Or.inl (by simp))
  have Z4 := Nat.le_trans Z0 (Keep.of_wr W4).1
  have N4 := Fr.snoc X4 N0 ga
  show own_Go p.tables e below K (T4.setTop (mkF m 12 #[.val (.ref a1), .unset, .unset] []))
  refine own_by (fun t k => XS.aloadN X4.here hx rfl (hb hby own_d3_12) rfl rfl k) ?_
  show own_Go p.tables e below K (T4.setTop (mkF m 13 #[.val (.ref a1), .unset, .unset] [(.ref a1)]))
  obtain ⟨T5, X5, e5, st5⟩ := getF X4 hx hZ hown (host := "") (Or.inl (hw _ (List.mem_of_getElem? (i := 9) rfl))) Via.refl e4 F4_state_a1 (g := (mkF m 13 #[.val (.ref a1), .unset, .unset] [(.ref a1)])) rfl rfl (hb hby own_d3_13)
  refine own_by st5 ?_
  show own_Go p.tables e below K (T5.setTop (mkF m 16 #[.val (.ref a1), .unset, .unset] [(.long (q0 + (-7046029254386353131 : Int64)))]))
  refine own_by (fun t k => XS.lstoreN X5.here hx rfl (hb hby own_d3_16) rfl (l' := #[.val (.ref a1), .val (.long (q0 + (-7046029254386353131 : Int64))), .second]) rfl k) ?_
  show own_Go p.tables e below K (T5.setTop (mkF m 17 #[.val (.ref a1), .val (.long (q0 + (-7046029254386353131 : Int64))), .second] []))
  refine own_by (fun t k => XS.lloadN X5.here hx rfl (hb hby own_d3_17) rfl k) ?_
  show own_Go p.tables e below K (T5.setTop (mkF m 18 #[.val (.ref a1), .val (.long (q0 + (-7046029254386353131 : Int64))), .second] [(.long (q0 + (-7046029254386353131 : Int64)))]))
  refine own_by (fun t k => XS.lloadN X5.here hx rfl (hb hby own_d3_18) rfl k) ?_
  show own_Go p.tables e below K (T5.setTop (mkF m 19 #[.val (.ref a1), .val (.long (q0 + (-7046029254386353131 : Int64))), .second] [(.long (q0 + (-7046029254386353131 : Int64))), (.long (q0 + (-7046029254386353131 : Int64)))]))
  refine own_by (fun t k => XS.bipush X5.here hx rfl (hb hby own_d3_19) k) ?_
  show own_Go p.tables e below K (T5.setTop (mkF m 21 #[.val (.ref a1), .val (.long (q0 + (-7046029254386353131 : Int64))), .second] [(.int (30 : Int32)), (.long (q0 + (-7046029254386353131 : Int64))), (.long (q0 + (-7046029254386353131 : Int64)))]))
  refine own_by (fun t k => XS.lushr X5.here hx rfl (hb hby own_d3_21) rfl k) ?_
  show own_Go p.tables e below K (T5.setTop (mkF m 22 #[.val (.ref a1), .val (.long (q0 + (-7046029254386353131 : Int64))), .second] [(.long (((q0 + (-7046029254386353131 : Int64)).toUInt64 >>> ((30 : Int32) &&& 0x3f).toInt64.toUInt64).toInt64)), (.long (q0 + (-7046029254386353131 : Int64)))]))
  refine own_by (fun t k => XS.lxor X5.here hx rfl (hb hby own_d3_22) rfl k) ?_
  show own_Go p.tables e below K (T5.setTop (mkF m 23 #[.val (.ref a1), .val (.long (q0 + (-7046029254386353131 : Int64))), .second] [(.long ((q0 + (-7046029254386353131 : Int64)) ^^^ (((q0 + (-7046029254386353131 : Int64)).toUInt64 >>> ((30 : Int32) &&& 0x3f).toInt64.toUInt64).toInt64)))]))
  refine own_by (fun t k => X5.ldc2Long hx hown (mvT hZ (hw _ (List.mem_of_getElem? (i := 17) rfl))) (g := (mkF m 23 #[.val (.ref a1), .val (.long (q0 + (-7046029254386353131 : Int64))), .second] [(.long ((q0 + (-7046029254386353131 : Int64)) ^^^ (((q0 + (-7046029254386353131 : Int64)).toUInt64 >>> ((30 : Int32) &&& 0x3f).toInt64.toUInt64).toInt64)))])) rfl (hb hby own_d3_23) _ k) ?_
  show own_Go p.tables e below K (T5.setTop (mkF m 26 #[.val (.ref a1), .val (.long (q0 + (-7046029254386353131 : Int64))), .second] [(.long (-4658895280553007687 : Int64)), (.long ((q0 + (-7046029254386353131 : Int64)) ^^^ (((q0 + (-7046029254386353131 : Int64)).toUInt64 >>> ((30 : Int32) &&& 0x3f).toInt64.toUInt64).toInt64)))]))
  refine own_by (fun t k => XS.lmul X5.here hx rfl (hb hby own_d3_26) rfl k) ?_
  show own_Go p.tables e below K (T5.setTop (mkF m 27 #[.val (.ref a1), .val (.long (q0 + (-7046029254386353131 : Int64))), .second] [(.long (((q0 + (-7046029254386353131 : Int64)) ^^^ (((q0 + (-7046029254386353131 : Int64)).toUInt64 >>> ((30 : Int32) &&& 0x3f).toInt64.toUInt64).toInt64)) * (-4658895280553007687 : Int64)))]))
  refine own_by (fun t k => XS.lstoreN X5.here hx rfl (hb hby own_d3_27) rfl (l' := #[.val (.ref a1), .val (.long (((q0 + (-7046029254386353131 : Int64)) ^^^ (((q0 + (-7046029254386353131 : Int64)).toUInt64 >>> ((30 : Int32) &&& 0x3f).toInt64.toUInt64).toInt64)) * (-4658895280553007687 : Int64))), .second]) rfl k) ?_
  show own_Go p.tables e below K (T5.setTop (mkF m 28 #[.val (.ref a1), .val (.long (own_m1 (q0 + (-7046029254386353131 : Int64)))), .second] []))
  refine own_by (fun t k => XS.lloadN X5.here hx rfl (hb hby own_d3_28) rfl k) ?_
  show own_Go p.tables e below K (T5.setTop (mkF m 29 #[.val (.ref a1), .val (.long (own_m1 (q0 + (-7046029254386353131 : Int64)))), .second] [(.long (own_m1 (q0 + (-7046029254386353131 : Int64))))]))
  refine own_by (fun t k => XS.lloadN X5.here hx rfl (hb hby own_d3_29) rfl k) ?_
  show own_Go p.tables e below K (T5.setTop (mkF m 30 #[.val (.ref a1), .val (.long (own_m1 (q0 + (-7046029254386353131 : Int64)))), .second] [(.long (own_m1 (q0 + (-7046029254386353131 : Int64)))), (.long (own_m1 (q0 + (-7046029254386353131 : Int64))))]))
  refine own_by (fun t k => XS.bipush X5.here hx rfl (hb hby own_d3_30) k) ?_
  show own_Go p.tables e below K (T5.setTop (mkF m 32 #[.val (.ref a1), .val (.long (own_m1 (q0 + (-7046029254386353131 : Int64)))), .second] [(.int (27 : Int32)), (.long (own_m1 (q0 + (-7046029254386353131 : Int64)))), (.long (own_m1 (q0 + (-7046029254386353131 : Int64))))]))
  refine own_by (fun t k => XS.lushr X5.here hx rfl (hb hby own_d3_32) rfl k) ?_
  show own_Go p.tables e below K (T5.setTop (mkF m 33 #[.val (.ref a1), .val (.long (own_m1 (q0 + (-7046029254386353131 : Int64)))), .second] [(.long (((own_m1 (q0 + (-7046029254386353131 : Int64))).toUInt64 >>> ((27 : Int32) &&& 0x3f).toInt64.toUInt64).toInt64)), (.long (own_m1 (q0 + (-7046029254386353131 : Int64))))]))
  refine own_by (fun t k => XS.lxor X5.here hx rfl (hb hby own_d3_33) rfl k) ?_
  show own_Go p.tables e below K (T5.setTop (mkF m 34 #[.val (.ref a1), .val (.long (own_m1 (q0 + (-7046029254386353131 : Int64)))), .second] [(.long ((own_m1 (q0 + (-7046029254386353131 : Int64))) ^^^ (((own_m1 (q0 + (-7046029254386353131 : Int64))).toUInt64 >>> ((27 : Int32) &&& 0x3f).toInt64.toUInt64).toInt64)))]))
  refine own_by (fun t k => X5.ldc2Long hx hown (mvT hZ (hw _ (List.mem_of_getElem? (i := 18) rfl))) (g := (mkF m 34 #[.val (.ref a1), .val (.long (own_m1 (q0 + (-7046029254386353131 : Int64)))), .second] [(.long ((own_m1 (q0 + (-7046029254386353131 : Int64))) ^^^ (((own_m1 (q0 + (-7046029254386353131 : Int64))).toUInt64 >>> ((27 : Int32) &&& 0x3f).toInt64.toUInt64).toInt64)))])) rfl (hb hby own_d3_34) _ k) ?_
  show own_Go p.tables e below K (T5.setTop (mkF m 37 #[.val (.ref a1), .val (.long (own_m1 (q0 + (-7046029254386353131 : Int64)))), .second] [(.long (-7723592293110705685 : Int64)), (.long ((own_m1 (q0 + (-7046029254386353131 : Int64))) ^^^ (((own_m1 (q0 + (-7046029254386353131 : Int64))).toUInt64 >>> ((27 : Int32) &&& 0x3f).toInt64.toUInt64).toInt64)))]))
  refine own_by (fun t k => XS.lmul X5.here hx rfl (hb hby own_d3_37) rfl k) ?_
  show own_Go p.tables e below K (T5.setTop (mkF m 38 #[.val (.ref a1), .val (.long (own_m1 (q0 + (-7046029254386353131 : Int64)))), .second] [(.long (((own_m1 (q0 + (-7046029254386353131 : Int64))) ^^^ (((own_m1 (q0 + (-7046029254386353131 : Int64))).toUInt64 >>> ((27 : Int32) &&& 0x3f).toInt64.toUInt64).toInt64)) * (-7723592293110705685 : Int64)))]))
  refine own_by (fun t k => XS.lstoreN X5.here hx rfl (hb hby own_d3_38) rfl (l' := #[.val (.ref a1), .val (.long (((own_m1 (q0 + (-7046029254386353131 : Int64))) ^^^ (((own_m1 (q0 + (-7046029254386353131 : Int64))).toUInt64 >>> ((27 : Int32) &&& 0x3f).toInt64.toUInt64).toInt64)) * (-7723592293110705685 : Int64))), .second]) rfl k) ?_
  show own_Go p.tables e below K (T5.setTop (mkF m 39 #[.val (.ref a1), .val (.long (own_m2 (own_m1 (q0 + (-7046029254386353131 : Int64))))), .second] []))
  refine own_by (fun t k => XS.lloadN X5.here hx rfl (hb hby own_d3_39) rfl k) ?_
  show own_Go p.tables e below K (T5.setTop (mkF m 40 #[.val (.ref a1), .val (.long (own_m2 (own_m1 (q0 + (-7046029254386353131 : Int64))))), .second] [(.long (own_m2 (own_m1 (q0 + (-7046029254386353131 : Int64)))))]))
  refine own_by (fun t k => XS.lloadN X5.here hx rfl (hb hby own_d3_40) rfl k) ?_
  show own_Go p.tables e below K (T5.setTop (mkF m 41 #[.val (.ref a1), .val (.long (own_m2 (own_m1 (q0 + (-7046029254386353131 : Int64))))), .second] [(.long (own_m2 (own_m1 (q0 + (-7046029254386353131 : Int64))))), (.long (own_m2 (own_m1 (q0 + (-7046029254386353131 : Int64)))))]))
  refine own_by (fun t k => XS.bipush X5.here hx rfl (hb hby own_d3_41) k) ?_
  show own_Go p.tables e below K (T5.setTop (mkF m 43 #[.val (.ref a1), .val (.long (own_m2 (own_m1 (q0 + (-7046029254386353131 : Int64))))), .second] [(.int (31 : Int32)), (.long (own_m2 (own_m1 (q0 + (-7046029254386353131 : Int64))))), (.long (own_m2 (own_m1 (q0 + (-7046029254386353131 : Int64)))))]))
  refine own_by (fun t k => XS.lushr X5.here hx rfl (hb hby own_d3_43) rfl k) ?_
  show own_Go p.tables e below K (T5.setTop (mkF m 44 #[.val (.ref a1), .val (.long (own_m2 (own_m1 (q0 + (-7046029254386353131 : Int64))))), .second] [(.long (((own_m2 (own_m1 (q0 + (-7046029254386353131 : Int64)))).toUInt64 >>> ((31 : Int32) &&& 0x3f).toInt64.toUInt64).toInt64)), (.long (own_m2 (own_m1 (q0 + (-7046029254386353131 : Int64)))))]))
  refine own_by (fun t k => XS.lxor X5.here hx rfl (hb hby own_d3_44) rfl k) ?_
  show own_Go p.tables e below K (T5.setTop (mkF m 45 #[.val (.ref a1), .val (.long (own_m2 (own_m1 (q0 + (-7046029254386353131 : Int64))))), .second] [(.long ((own_m2 (own_m1 (q0 + (-7046029254386353131 : Int64)))) ^^^ (((own_m2 (own_m1 (q0 + (-7046029254386353131 : Int64)))).toUInt64 >>> ((31 : Int32) &&& 0x3f).toInt64.toUInt64).toInt64)))]))
  exact own_retJ X5 hx hret (hb hby own_d3_45) (hK (some (.long (own_mix (q0 + (-7046029254386353131 : Int64))))) X5 (fun h => by rw [hret] at h; cases h) (by rw [e5]; exact ⟨rfl, N4, K4, Ex4_a1, F4_state_a1⟩) (by decide) (by decide))
theorem own_pn4 : plainName "com/example/manyfront/manyfront/core/RandomStreamNextLongPinLaw" = true := by first | (simp [plainName, overriddenIn]; done) | decide +kernel
theorem own_d4_0 : decode method_2_code 0 = .ok (.lload_n 0, 1) := by decide +kernel
theorem own_d4_1 : decode method_2_code 1 = .ok (.lload_n 0, 1) := by decide +kernel
theorem own_d4_2 : decode method_2_code 2 = .ok (.bipush 31, 2) := by decide +kernel
theorem own_d4_4 : decode method_2_code 4 = .ok (.lushr, 1) := by decide +kernel
theorem own_d4_5 : decode method_2_code 5 = .ok (.lxor, 1) := by decide +kernel
theorem own_d4_6 : decode method_2_code 6 = .ok (.lload_n 0, 1) := by decide +kernel
theorem own_d4_7 : decode method_2_code 7 = .ok (.bipush 62, 2) := by decide +kernel
theorem own_d4_9 : decode method_2_code 9 = .ok (.lushr, 1) := by decide +kernel
theorem own_d4_10 : decode method_2_code 10 = .ok (.lxor, 1) := by decide +kernel
theorem own_d4_11 : decode method_2_code 11 = .ok (.lstore_n 2, 1) := by decide +kernel
theorem own_d4_12 : decode method_2_code 12 = .ok (.lload_n 2, 1) := by decide +kernel
theorem own_d4_13 : decode method_2_code 13 = .ok (.ldc2_w 7, 3) := by decide +kernel
theorem own_d4_16 : decode method_2_code 16 = .ok (.lmul, 1) := by decide +kernel
theorem own_d4_17 : decode method_2_code 17 = .ok (.lstore_n 2, 1) := by decide +kernel
theorem own_d4_18 : decode method_2_code 18 = .ok (.lload_n 2, 1) := by decide +kernel
theorem own_d4_19 : decode method_2_code 19 = .ok (.lload_n 2, 1) := by decide +kernel
theorem own_d4_20 : decode method_2_code 20 = .ok (.bipush 27, 2) := by decide +kernel
theorem own_d4_22 : decode method_2_code 22 = .ok (.lushr, 1) := by decide +kernel
theorem own_d4_23 : decode method_2_code 23 = .ok (.lxor, 1) := by decide +kernel
theorem own_d4_24 : decode method_2_code 24 = .ok (.lload_n 2, 1) := by decide +kernel
theorem own_d4_25 : decode method_2_code 25 = .ok (.bipush 54, 2) := by decide +kernel
theorem own_d4_27 : decode method_2_code 27 = .ok (.lushr, 1) := by decide +kernel
theorem own_d4_28 : decode method_2_code 28 = .ok (.lxor, 1) := by decide +kernel
theorem own_d4_29 : decode method_2_code 29 = .ok (.lstore_n 2, 1) := by decide +kernel
theorem own_d4_30 : decode method_2_code 30 = .ok (.lload_n 2, 1) := by decide +kernel
theorem own_d4_31 : decode method_2_code 31 = .ok (.ldc2_w 9, 3) := by decide +kernel
theorem own_d4_34 : decode method_2_code 34 = .ok (.lmul, 1) := by decide +kernel
theorem own_d4_35 : decode method_2_code 35 = .ok (.lstore_n 2, 1) := by decide +kernel
theorem own_d4_36 : decode method_2_code 36 = .ok (.lload_n 2, 1) := by decide +kernel
theorem own_d4_37 : decode method_2_code 37 = .ok (.lload_n 2, 1) := by decide +kernel
theorem own_d4_38 : decode method_2_code 38 = .ok (.bipush 30, 2) := by decide +kernel
theorem own_d4_40 : decode method_2_code 40 = .ok (.lushr, 1) := by decide +kernel
theorem own_d4_41 : decode method_2_code 41 = .ok (.lxor, 1) := by decide +kernel
theorem own_d4_42 : decode method_2_code 42 = .ok (.lload_n 2, 1) := by decide +kernel
theorem own_d4_43 : decode method_2_code 43 = .ok (.bipush 60, 2) := by decide +kernel
theorem own_d4_45 : decode method_2_code 45 = .ok (.lushr, 1) := by decide +kernel
theorem own_d4_46 : decode method_2_code 46 = .ok (.lxor, 1) := by decide +kernel
theorem own_d4_47 : decode method_2_code 47 = .ok (.lstore_n 2, 1) := by decide +kernel
theorem own_d4_48 : decode method_2_code 48 = .ok (.lload_n 2, 1) := by decide +kernel
theorem own_d4_49 : decode method_2_code 49 = .ok (.lreturn, 1) := by decide +kernel
theorem own_ef3 (m : MethodId) (q0 : Int64) : entryFrame m #[(.long q0)] 4 = mkF m 0 #[.val (.long q0), .second, .unset, .unset] [] := by first | (simp [entryFrame, mkF, argsToLocals, Value.category]; done) | rfl
def own_Q3 (Z : State) (q0 : Int64) (h0 : Heap) (n0 : Nat) (v : Option Value) (h : Heap) (L : List Loc) : Prop := v = some (.long (own_unmix q0)) ∧ Fr n0 L ∧ h = h0
set_option maxRecDepth 65536 in
set_option maxHeartbeats 40000000 in
theorem own_rm3 (l : Launch) (Z : State) (a0 : Array Value) (hw : ∀ d ∈ tables_1, d.before a0 Z = true) (ws : List Jvm.Cond) (q0 : Int64) (h0 : Heap) (n0 : Nat) (Z0 : n0 ≤ h0.size)  :
    MetFree l (⟨"com/example/manyfront/manyfront/core/RandomStreamNextLongPinLaw", "unmix", "(J)J"⟩ : MethodName) (head1 (Jvm.Cond.code (⟨"com/example/manyfront/manyfront/core/RandomStreamNextLongPinLaw", "unmix", "(J)J"⟩ : MethodName) method_2_code 4 (some .long) :: ws) ({ frames := 0, cells := 0, slots := 0, locals := 0 } : Room)) (fun a U => a = #[(.long q0)] ∧ Z.Warmed39 U.vm ∧ U.heap = h0) (fun _ _ _ _ _ => True) (fun _ U o U' => ∃ v L, o = .returned v ∧ own_Q3 Z q0 h0 n0 v U'.heap L ∧ FrameEnd U o U' L ({ frames := 0, cells := 0, slots := 0, locals := 0 } : Room).cells ({ frames := 0, cells := 0, slots := 0, locals := 0 } : Room).slots) := by
  refine own_met (Q := own_Q3 Z q0 h0 n0) (plainFor_of_name own_pn4) ?_
  intro p e s m below meth c s₁ K hx hby hml hown hnm hret hZ X0 e0 hK
  have hown : s.vm.findClass "com/example/manyfront/manyfront/core/RandomStreamNextLongPinLaw" = some m.cls := hown
  have N0 := Fr.nil n0
  refine own_by (fun t k => castTop (own_ef3 m q0) k) ?_
  show own_Go p.tables e below K (s₁.setTop (mkF m 0 #[.val (.long q0), .second, .unset, .unset] []))
  refine own_by (fun t k => XS.lloadN X0.here hx rfl (hb hby own_d4_0) rfl k) ?_
  show own_Go p.tables e below K (s₁.setTop (mkF m 1 #[.val (.long q0), .second, .unset, .unset] [(.long q0)]))
  refine own_by (fun t k => XS.lloadN X0.here hx rfl (hb hby own_d4_1) rfl k) ?_
  show own_Go p.tables e below K (s₁.setTop (mkF m 2 #[.val (.long q0), .second, .unset, .unset] [(.long q0), (.long q0)]))
  refine own_by (fun t k => XS.bipush X0.here hx rfl (hb hby own_d4_2) k) ?_
  show own_Go p.tables e below K (s₁.setTop (mkF m 4 #[.val (.long q0), .second, .unset, .unset] [(.int (31 : Int32)), (.long q0), (.long q0)]))
  refine own_by (fun t k => XS.lushr X0.here hx rfl (hb hby own_d4_4) rfl k) ?_
  show own_Go p.tables e below K (s₁.setTop (mkF m 5 #[.val (.long q0), .second, .unset, .unset] [(.long ((q0.toUInt64 >>> ((31 : Int32) &&& 0x3f).toInt64.toUInt64).toInt64)), (.long q0)]))
  refine own_by (fun t k => XS.lxor X0.here hx rfl (hb hby own_d4_5) rfl k) ?_
  show own_Go p.tables e below K (s₁.setTop (mkF m 6 #[.val (.long q0), .second, .unset, .unset] [(.long (q0 ^^^ ((q0.toUInt64 >>> ((31 : Int32) &&& 0x3f).toInt64.toUInt64).toInt64)))]))
  refine own_by (fun t k => XS.lloadN X0.here hx rfl (hb hby own_d4_6) rfl k) ?_
  show own_Go p.tables e below K (s₁.setTop (mkF m 7 #[.val (.long q0), .second, .unset, .unset] [(.long q0), (.long (q0 ^^^ ((q0.toUInt64 >>> ((31 : Int32) &&& 0x3f).toInt64.toUInt64).toInt64)))]))
  refine own_by (fun t k => XS.bipush X0.here hx rfl (hb hby own_d4_7) k) ?_
  show own_Go p.tables e below K (s₁.setTop (mkF m 9 #[.val (.long q0), .second, .unset, .unset] [(.int (62 : Int32)), (.long q0), (.long (q0 ^^^ ((q0.toUInt64 >>> ((31 : Int32) &&& 0x3f).toInt64.toUInt64).toInt64)))]))
  refine own_by (fun t k => XS.lushr X0.here hx rfl (hb hby own_d4_9) rfl k) ?_
  show own_Go p.tables e below K (s₁.setTop (mkF m 10 #[.val (.long q0), .second, .unset, .unset] [(.long ((q0.toUInt64 >>> ((62 : Int32) &&& 0x3f).toInt64.toUInt64).toInt64)), (.long (q0 ^^^ ((q0.toUInt64 >>> ((31 : Int32) &&& 0x3f).toInt64.toUInt64).toInt64)))]))
  refine own_by (fun t k => XS.lxor X0.here hx rfl (hb hby own_d4_10) rfl k) ?_
  show own_Go p.tables e below K (s₁.setTop (mkF m 11 #[.val (.long q0), .second, .unset, .unset] [(.long ((q0 ^^^ ((q0.toUInt64 >>> ((31 : Int32) &&& 0x3f).toInt64.toUInt64).toInt64)) ^^^ ((q0.toUInt64 >>> ((62 : Int32) &&& 0x3f).toInt64.toUInt64).toInt64)))]))
  refine own_by (fun t k => XS.lstoreN X0.here hx rfl (hb hby own_d4_11) rfl (l' := #[.val (.long q0), .second, .val (.long ((q0 ^^^ ((q0.toUInt64 >>> ((31 : Int32) &&& 0x3f).toInt64.toUInt64).toInt64)) ^^^ ((q0.toUInt64 >>> ((62 : Int32) &&& 0x3f).toInt64.toUInt64).toInt64))), .second]) rfl k) ?_
  show own_Go p.tables e below K (s₁.setTop (mkF m 12 #[.val (.long q0), .second, .val (.long (own_u1 q0)), .second] []))
  refine own_by (fun t k => XS.lloadN X0.here hx rfl (hb hby own_d4_12) rfl k) ?_
  show own_Go p.tables e below K (s₁.setTop (mkF m 13 #[.val (.long q0), .second, .val (.long (own_u1 q0)), .second] [(.long (own_u1 q0))]))
  refine own_by (fun t k => X0.ldc2Long hx hown (mvT hZ (hw _ (List.mem_of_getElem? (i := 23) rfl))) (g := (mkF m 13 #[.val (.long q0), .second, .val (.long (own_u1 q0)), .second] [(.long (own_u1 q0))])) rfl (hb hby own_d4_13) _ k) ?_
  show own_Go p.tables e below K (s₁.setTop (mkF m 16 #[.val (.long q0), .second, .val (.long (own_u1 q0)), .second] [(.long (3573116690164977347 : Int64)), (.long (own_u1 q0))]))
  refine own_by (fun t k => XS.lmul X0.here hx rfl (hb hby own_d4_16) rfl k) ?_
  show own_Go p.tables e below K (s₁.setTop (mkF m 17 #[.val (.long q0), .second, .val (.long (own_u1 q0)), .second] [(.long ((own_u1 q0) * (3573116690164977347 : Int64)))]))
  refine own_by (fun t k => XS.lstoreN X0.here hx rfl (hb hby own_d4_17) rfl (l' := #[.val (.long q0), .second, .val (.long ((own_u1 q0) * (3573116690164977347 : Int64))), .second]) rfl k) ?_
  show own_Go p.tables e below K (s₁.setTop (mkF m 18 #[.val (.long q0), .second, .val (.long ((own_u1 q0) * (3573116690164977347 : Int64))), .second] []))
  refine own_by (fun t k => XS.lloadN X0.here hx rfl (hb hby own_d4_18) rfl k) ?_
  show own_Go p.tables e below K (s₁.setTop (mkF m 19 #[.val (.long q0), .second, .val (.long ((own_u1 q0) * (3573116690164977347 : Int64))), .second] [(.long ((own_u1 q0) * (3573116690164977347 : Int64)))]))
  refine own_by (fun t k => XS.lloadN X0.here hx rfl (hb hby own_d4_19) rfl k) ?_
  show own_Go p.tables e below K (s₁.setTop (mkF m 20 #[.val (.long q0), .second, .val (.long ((own_u1 q0) * (3573116690164977347 : Int64))), .second] [(.long ((own_u1 q0) * (3573116690164977347 : Int64))), (.long ((own_u1 q0) * (3573116690164977347 : Int64)))]))
  refine own_by (fun t k => XS.bipush X0.here hx rfl (hb hby own_d4_20) k) ?_
  show own_Go p.tables e below K (s₁.setTop (mkF m 22 #[.val (.long q0), .second, .val (.long ((own_u1 q0) * (3573116690164977347 : Int64))), .second] [(.int (27 : Int32)), (.long ((own_u1 q0) * (3573116690164977347 : Int64))), (.long ((own_u1 q0) * (3573116690164977347 : Int64)))]))
  refine own_by (fun t k => XS.lushr X0.here hx rfl (hb hby own_d4_22) rfl k) ?_
  show own_Go p.tables e below K (s₁.setTop (mkF m 23 #[.val (.long q0), .second, .val (.long ((own_u1 q0) * (3573116690164977347 : Int64))), .second] [(.long ((((own_u1 q0) * (3573116690164977347 : Int64)).toUInt64 >>> ((27 : Int32) &&& 0x3f).toInt64.toUInt64).toInt64)), (.long ((own_u1 q0) * (3573116690164977347 : Int64)))]))
  refine own_by (fun t k => XS.lxor X0.here hx rfl (hb hby own_d4_23) rfl k) ?_
  show own_Go p.tables e below K (s₁.setTop (mkF m 24 #[.val (.long q0), .second, .val (.long ((own_u1 q0) * (3573116690164977347 : Int64))), .second] [(.long (((own_u1 q0) * (3573116690164977347 : Int64)) ^^^ ((((own_u1 q0) * (3573116690164977347 : Int64)).toUInt64 >>> ((27 : Int32) &&& 0x3f).toInt64.toUInt64).toInt64)))]))
  refine own_by (fun t k => XS.lloadN X0.here hx rfl (hb hby own_d4_24) rfl k) ?_
  show own_Go p.tables e below K (s₁.setTop (mkF m 25 #[.val (.long q0), .second, .val (.long ((own_u1 q0) * (3573116690164977347 : Int64))), .second] [(.long ((own_u1 q0) * (3573116690164977347 : Int64))), (.long (((own_u1 q0) * (3573116690164977347 : Int64)) ^^^ ((((own_u1 q0) * (3573116690164977347 : Int64)).toUInt64 >>> ((27 : Int32) &&& 0x3f).toInt64.toUInt64).toInt64)))]))
  refine own_by (fun t k => XS.bipush X0.here hx rfl (hb hby own_d4_25) k) ?_
  show own_Go p.tables e below K (s₁.setTop (mkF m 27 #[.val (.long q0), .second, .val (.long ((own_u1 q0) * (3573116690164977347 : Int64))), .second] [(.int (54 : Int32)), (.long ((own_u1 q0) * (3573116690164977347 : Int64))), (.long (((own_u1 q0) * (3573116690164977347 : Int64)) ^^^ ((((own_u1 q0) * (3573116690164977347 : Int64)).toUInt64 >>> ((27 : Int32) &&& 0x3f).toInt64.toUInt64).toInt64)))]))
  refine own_by (fun t k => XS.lushr X0.here hx rfl (hb hby own_d4_27) rfl k) ?_
  show own_Go p.tables e below K (s₁.setTop (mkF m 28 #[.val (.long q0), .second, .val (.long ((own_u1 q0) * (3573116690164977347 : Int64))), .second] [(.long ((((own_u1 q0) * (3573116690164977347 : Int64)).toUInt64 >>> ((54 : Int32) &&& 0x3f).toInt64.toUInt64).toInt64)), (.long (((own_u1 q0) * (3573116690164977347 : Int64)) ^^^ ((((own_u1 q0) * (3573116690164977347 : Int64)).toUInt64 >>> ((27 : Int32) &&& 0x3f).toInt64.toUInt64).toInt64)))]))
  refine own_by (fun t k => XS.lxor X0.here hx rfl (hb hby own_d4_28) rfl k) ?_
  show own_Go p.tables e below K (s₁.setTop (mkF m 29 #[.val (.long q0), .second, .val (.long ((own_u1 q0) * (3573116690164977347 : Int64))), .second] [(.long ((((own_u1 q0) * (3573116690164977347 : Int64)) ^^^ ((((own_u1 q0) * (3573116690164977347 : Int64)).toUInt64 >>> ((27 : Int32) &&& 0x3f).toInt64.toUInt64).toInt64)) ^^^ ((((own_u1 q0) * (3573116690164977347 : Int64)).toUInt64 >>> ((54 : Int32) &&& 0x3f).toInt64.toUInt64).toInt64)))]))
  refine own_by (fun t k => XS.lstoreN X0.here hx rfl (hb hby own_d4_29) rfl (l' := #[.val (.long q0), .second, .val (.long ((((own_u1 q0) * (3573116690164977347 : Int64)) ^^^ ((((own_u1 q0) * (3573116690164977347 : Int64)).toUInt64 >>> ((27 : Int32) &&& 0x3f).toInt64.toUInt64).toInt64)) ^^^ ((((own_u1 q0) * (3573116690164977347 : Int64)).toUInt64 >>> ((54 : Int32) &&& 0x3f).toInt64.toUInt64).toInt64))), .second]) rfl k) ?_
  show own_Go p.tables e below K (s₁.setTop (mkF m 30 #[.val (.long q0), .second, .val (.long (own_u2 ((own_u1 q0) * (3573116690164977347 : Int64)))), .second] []))
  refine own_by (fun t k => XS.lloadN X0.here hx rfl (hb hby own_d4_30) rfl k) ?_
  show own_Go p.tables e below K (s₁.setTop (mkF m 31 #[.val (.long q0), .second, .val (.long (own_u2 ((own_u1 q0) * (3573116690164977347 : Int64)))), .second] [(.long (own_u2 ((own_u1 q0) * (3573116690164977347 : Int64))))]))
  refine own_by (fun t k => X0.ldc2Long hx hown (mvT hZ (hw _ (List.mem_of_getElem? (i := 24) rfl))) (g := (mkF m 31 #[.val (.long q0), .second, .val (.long (own_u2 ((own_u1 q0) * (3573116690164977347 : Int64)))), .second] [(.long (own_u2 ((own_u1 q0) * (3573116690164977347 : Int64))))])) rfl (hb hby own_d4_31) _ k) ?_
  show own_Go p.tables e below K (s₁.setTop (mkF m 34 #[.val (.long q0), .second, .val (.long (own_u2 ((own_u1 q0) * (3573116690164977347 : Int64)))), .second] [(.long (-7575587736534282103 : Int64)), (.long (own_u2 ((own_u1 q0) * (3573116690164977347 : Int64))))]))
  refine own_by (fun t k => XS.lmul X0.here hx rfl (hb hby own_d4_34) rfl k) ?_
  show own_Go p.tables e below K (s₁.setTop (mkF m 35 #[.val (.long q0), .second, .val (.long (own_u2 ((own_u1 q0) * (3573116690164977347 : Int64)))), .second] [(.long ((own_u2 ((own_u1 q0) * (3573116690164977347 : Int64))) * (-7575587736534282103 : Int64)))]))
  refine own_by (fun t k => XS.lstoreN X0.here hx rfl (hb hby own_d4_35) rfl (l' := #[.val (.long q0), .second, .val (.long ((own_u2 ((own_u1 q0) * (3573116690164977347 : Int64))) * (-7575587736534282103 : Int64))), .second]) rfl k) ?_
  show own_Go p.tables e below K (s₁.setTop (mkF m 36 #[.val (.long q0), .second, .val (.long ((own_u2 ((own_u1 q0) * (3573116690164977347 : Int64))) * (-7575587736534282103 : Int64))), .second] []))
  refine own_by (fun t k => XS.lloadN X0.here hx rfl (hb hby own_d4_36) rfl k) ?_
  show own_Go p.tables e below K (s₁.setTop (mkF m 37 #[.val (.long q0), .second, .val (.long ((own_u2 ((own_u1 q0) * (3573116690164977347 : Int64))) * (-7575587736534282103 : Int64))), .second] [(.long ((own_u2 ((own_u1 q0) * (3573116690164977347 : Int64))) * (-7575587736534282103 : Int64)))]))
  refine own_by (fun t k => XS.lloadN X0.here hx rfl (hb hby own_d4_37) rfl k) ?_
  show own_Go p.tables e below K (s₁.setTop (mkF m 38 #[.val (.long q0), .second, .val (.long ((own_u2 ((own_u1 q0) * (3573116690164977347 : Int64))) * (-7575587736534282103 : Int64))), .second] [(.long ((own_u2 ((own_u1 q0) * (3573116690164977347 : Int64))) * (-7575587736534282103 : Int64))), (.long ((own_u2 ((own_u1 q0) * (3573116690164977347 : Int64))) * (-7575587736534282103 : Int64)))]))
  refine own_by (fun t k => XS.bipush X0.here hx rfl (hb hby own_d4_38) k) ?_
  show own_Go p.tables e below K (s₁.setTop (mkF m 40 #[.val (.long q0), .second, .val (.long ((own_u2 ((own_u1 q0) * (3573116690164977347 : Int64))) * (-7575587736534282103 : Int64))), .second] [(.int (30 : Int32)), (.long ((own_u2 ((own_u1 q0) * (3573116690164977347 : Int64))) * (-7575587736534282103 : Int64))), (.long ((own_u2 ((own_u1 q0) * (3573116690164977347 : Int64))) * (-7575587736534282103 : Int64)))]))
  refine own_by (fun t k => XS.lushr X0.here hx rfl (hb hby own_d4_40) rfl k) ?_
  show own_Go p.tables e below K (s₁.setTop (mkF m 41 #[.val (.long q0), .second, .val (.long ((own_u2 ((own_u1 q0) * (3573116690164977347 : Int64))) * (-7575587736534282103 : Int64))), .second] [(.long ((((own_u2 ((own_u1 q0) * (3573116690164977347 : Int64))) * (-7575587736534282103 : Int64)).toUInt64 >>> ((30 : Int32) &&& 0x3f).toInt64.toUInt64).toInt64)), (.long ((own_u2 ((own_u1 q0) * (3573116690164977347 : Int64))) * (-7575587736534282103 : Int64)))]))
  refine own_by (fun t k => XS.lxor X0.here hx rfl (hb hby own_d4_41) rfl k) ?_
  show own_Go p.tables e below K (s₁.setTop (mkF m 42 #[.val (.long q0), .second, .val (.long ((own_u2 ((own_u1 q0) * (3573116690164977347 : Int64))) * (-7575587736534282103 : Int64))), .second] [(.long (((own_u2 ((own_u1 q0) * (3573116690164977347 : Int64))) * (-7575587736534282103 : Int64)) ^^^ ((((own_u2 ((own_u1 q0) * (3573116690164977347 : Int64))) * (-7575587736534282103 : Int64)).toUInt64 >>> ((30 : Int32) &&& 0x3f).toInt64.toUInt64).toInt64)))]))
  refine own_by (fun t k => XS.lloadN X0.here hx rfl (hb hby own_d4_42) rfl k) ?_
  show own_Go p.tables e below K (s₁.setTop (mkF m 43 #[.val (.long q0), .second, .val (.long ((own_u2 ((own_u1 q0) * (3573116690164977347 : Int64))) * (-7575587736534282103 : Int64))), .second] [(.long ((own_u2 ((own_u1 q0) * (3573116690164977347 : Int64))) * (-7575587736534282103 : Int64))), (.long (((own_u2 ((own_u1 q0) * (3573116690164977347 : Int64))) * (-7575587736534282103 : Int64)) ^^^ ((((own_u2 ((own_u1 q0) * (3573116690164977347 : Int64))) * (-7575587736534282103 : Int64)).toUInt64 >>> ((30 : Int32) &&& 0x3f).toInt64.toUInt64).toInt64)))]))
  refine own_by (fun t k => XS.bipush X0.here hx rfl (hb hby own_d4_43) k) ?_
  show own_Go p.tables e below K (s₁.setTop (mkF m 45 #[.val (.long q0), .second, .val (.long ((own_u2 ((own_u1 q0) * (3573116690164977347 : Int64))) * (-7575587736534282103 : Int64))), .second] [(.int (60 : Int32)), (.long ((own_u2 ((own_u1 q0) * (3573116690164977347 : Int64))) * (-7575587736534282103 : Int64))), (.long (((own_u2 ((own_u1 q0) * (3573116690164977347 : Int64))) * (-7575587736534282103 : Int64)) ^^^ ((((own_u2 ((own_u1 q0) * (3573116690164977347 : Int64))) * (-7575587736534282103 : Int64)).toUInt64 >>> ((30 : Int32) &&& 0x3f).toInt64.toUInt64).toInt64)))]))
  refine own_by (fun t k => XS.lushr X0.here hx rfl (hb hby own_d4_45) rfl k) ?_
  show own_Go p.tables e below K (s₁.setTop (mkF m 46 #[.val (.long q0), .second, .val (.long ((own_u2 ((own_u1 q0) * (3573116690164977347 : Int64))) * (-7575587736534282103 : Int64))), .second] [(.long ((((own_u2 ((own_u1 q0) * (3573116690164977347 : Int64))) * (-7575587736534282103 : Int64)).toUInt64 >>> ((60 : Int32) &&& 0x3f).toInt64.toUInt64).toInt64)), (.long (((own_u2 ((own_u1 q0) * (3573116690164977347 : Int64))) * (-7575587736534282103 : Int64)) ^^^ ((((own_u2 ((own_u1 q0) * (3573116690164977347 : Int64))) * (-7575587736534282103 : Int64)).toUInt64 >>> ((30 : Int32) &&& 0x3f).toInt64.toUInt64).toInt64)))]))
  refine own_by (fun t k => XS.lxor X0.here hx rfl (hb hby own_d4_46) rfl k) ?_
  show own_Go p.tables e below K (s₁.setTop (mkF m 47 #[.val (.long q0), .second, .val (.long ((own_u2 ((own_u1 q0) * (3573116690164977347 : Int64))) * (-7575587736534282103 : Int64))), .second] [(.long ((((own_u2 ((own_u1 q0) * (3573116690164977347 : Int64))) * (-7575587736534282103 : Int64)) ^^^ ((((own_u2 ((own_u1 q0) * (3573116690164977347 : Int64))) * (-7575587736534282103 : Int64)).toUInt64 >>> ((30 : Int32) &&& 0x3f).toInt64.toUInt64).toInt64)) ^^^ ((((own_u2 ((own_u1 q0) * (3573116690164977347 : Int64))) * (-7575587736534282103 : Int64)).toUInt64 >>> ((60 : Int32) &&& 0x3f).toInt64.toUInt64).toInt64)))]))
  refine own_by (fun t k => XS.lstoreN X0.here hx rfl (hb hby own_d4_47) rfl (l' := #[.val (.long q0), .second, .val (.long ((((own_u2 ((own_u1 q0) * (3573116690164977347 : Int64))) * (-7575587736534282103 : Int64)) ^^^ ((((own_u2 ((own_u1 q0) * (3573116690164977347 : Int64))) * (-7575587736534282103 : Int64)).toUInt64 >>> ((30 : Int32) &&& 0x3f).toInt64.toUInt64).toInt64)) ^^^ ((((own_u2 ((own_u1 q0) * (3573116690164977347 : Int64))) * (-7575587736534282103 : Int64)).toUInt64 >>> ((60 : Int32) &&& 0x3f).toInt64.toUInt64).toInt64))), .second]) rfl k) ?_
  show own_Go p.tables e below K (s₁.setTop (mkF m 48 #[.val (.long q0), .second, .val (.long (own_unmix q0)), .second] []))
  refine own_by (fun t k => XS.lloadN X0.here hx rfl (hb hby own_d4_48) rfl k) ?_
  show own_Go p.tables e below K (s₁.setTop (mkF m 49 #[.val (.long q0), .second, .val (.long (own_unmix q0)), .second] [(.long (own_unmix q0))]))
  exact own_retJ X0 hx hret (hb hby own_d4_49) (hK (some (.long (own_unmix q0))) X0 (fun h => by rw [hret] at h; cases h) (⟨rfl, N0, e0⟩) (by decide) (by decide))
theorem own_pd0 : parseMethodDescriptor "(J)V" = some ⟨[.long], none⟩ := by decide +kernel
theorem own_pd1 : parseMethodDescriptor "()J" = some ⟨[], some .long⟩ := by decide +kernel
theorem own_pd2 : parseMethodDescriptor "(J)J" = some ⟨[.long], some .long⟩ := by decide +kernel
theorem own_ef0 (m : MethodId) (q1 : Int64) : entryFrame m #[(.long q1)] maxLocals = mkF m 0 #[.val (.long q1), .second, .unset, .unset, .unset, .unset, .unset] [] := by first | (simp [entryFrame, mkF, argsToLocals, Value.category, maxLocals]; done) | rfl
def own_Q0 (Z : State) (q1 : Int64) (h0 : Heap) (n0 : Nat) (v : Option Value) (h : Heap) (L : List Loc) : Prop := v = some (.int (1 : Int32)) ∧ Fr n0 L
set_option maxRecDepth 65536 in
set_option maxHeartbeats 40000000 in
theorem own_rm0 (l : Launch) (Z : State) (a0 : Array Value) (hw : ∀ d ∈ tables_1, d.before a0 Z = true) (ws : List Jvm.Cond) (q1 : Int64) (h0 : Heap) (n0 : Nat) (Z0 : n0 ≤ h0.size)  :
    MetFree l x (head1 (Jvm.Cond.code x code maxLocals ret :: ws) room_1) (fun a U => a = #[(.long q1)] ∧ Z.Warmed39 U.vm ∧ U.heap = h0) (fun _ _ _ _ _ => True) (fun _ U o U' => ∃ v L, o = .returned v ∧ own_Q0 Z q1 h0 n0 v U'.heap L ∧ FrameEnd U o U' L 1 1) := by
  refine own_met (Q := own_Q0 Z q1 h0 n0) (plainFor_of_name own_pn4) ?_
  intro p e s m below meth c s₁ K hx hby hml hown hnm hret hZ X0 e0 hK
  have hown : s.vm.findClass "com/example/manyfront/manyfront/core/RandomStreamNextLongPinLaw" = some m.cls := hown
  have N0 := Fr.nil n0
  refine own_by (fun t k => castTop (own_ef0 m q1) k) ?_
  show own_Go p.tables e below K (s₁.setTop (mkF m 0 #[.val (.long q1), .second, .unset, .unset, .unset, .unset, .unset] []))
  obtain ⟨T6, h6, X6, e6, E6, A6, D6, -, st6⟩ := newO X0 hx hZ hown (hw _ (List.mem_of_getElem? (i := 0) rfl)) (hw _ (List.mem_of_getElem? (i := 1) rfl)) (hw _ (List.mem_of_getElem? (i := 2) rfl)) e0 (g := (mkF m 0 #[.val (.long q1), .second, .unset, .unset, .unset, .unset, .unset] [])) rfl (hb hby at_0) (by decide) (by decide)
  obtain ⟨b6, g6⟩ : ∃ z, z = h0.size := ⟨_, rfl⟩
  rw [← g6] at A6 D6 st6
  refine own_by st6 ?_
  have gn_b6 : n0 ≤ b6 := Nat.le_trans Z0 (Nat.le_of_eq g6.symm)
  have Z6 := Nat.le_trans Z0 E6.1
  have F6_state_b6 : Fld Z h6 b6 "com/example/manyfront/manyfront/core/RandomStream" "state" "J" (.long (0 : Int64)) := D6 (Or.inl (hw _ (List.mem_of_getElem? (i := 10) rfl))) (ty := .long) (by decide)
  show own_Go p.tables e below K (T6.setTop (mkF m 3 #[.val (.long q1), .second, .unset, .unset, .unset, .unset, .unset] [(.ref b6)]))
  refine own_by (fun t k => XS.dup X6.here hx rfl (hb hby at_3) rfl rfl k) ?_
  show own_Go p.tables e below K (T6.setTop (mkF m 4 #[.val (.long q1), .second, .unset, .unset, .unset, .unset, .unset] [(.ref b6), (.ref b6)]))
  refine own_by (fun t k => XS.lloadN X6.here hx rfl (hb hby at_4) rfl k) ?_
  show own_Go p.tables e below K (T6.setTop (mkF m 5 #[.val (.long q1), .second, .unset, .unset, .unset, .unset, .unset] [(.long q1), (.ref b6), (.ref b6)]))
  obtain ⟨_, _, ⟨T7, L7, k7, n7⟩, -, X7, ⟨Lc7, hQ7, l7, y7, z7⟩, st7⟩ := X6.specialBack hx (y := (⟨"com/example/manyfront/manyfront/core/RandomStream", "<init>", "(J)V"⟩ : MethodName)) rfl hown (mvT hZ (hw _ (List.mem_of_getElem? (i := 3) rfl))) (mvT hZ (hw _ (List.mem_of_getElem? (i := 4) rfl))) (mvT hZ (hw _ (List.mem_of_getElem? (i := 5) rfl))) (by decide) (backOf (W := 1) (own_rm1 l Z a0 hw [] b6 q1 0 h6 n0 Z6 A6 F6_state_b6 gn_b6) hZ (hw _ (List.mem_of_getElem? (i := 5) rfl)) (hw _ (List.mem_of_getElem? (i := 2) rfl)) (by decide) (by decide)) (g := (mkF m 5 #[.val (.long q1), .second, .unset, .unset, .unset, .unset, .unset] [(.long q1), (.ref b6), (.ref b6)])) rfl (by rw [hml]; rfl) (Steps.refl _) (a := b6) (argsL := [(.long q1)]) (rest := [(.ref b6)]) (lenOf own_pd0 rfl) rfl (by show 2 * 0 + _ ≤ _; exact Nat.le_of_eq rfl) (hb hby at_5) (fun _ _ => ⟨rfl, e6, (by decide : 1 + 0 ≤ _), (by decide : 1 + 0 ≤ _)⟩)
  dsimp only [Pt.U, Pt.locs, Pt.cells, Pt.slots] at X7 l7 y7 z7 st7 hQ7
  subst l7 y7 z7
  obtain ⟨rfl, N7q, Kp7, Ep7, Fp7⟩ := hQ7
  have N7 := Fr.app N0 N7q
  refine own_by (fun t k => st7.trans k) ?_
  have Ex7_b6 := A6.keep Kp7
  have Z7 := Nat.le_trans Z6 Kp7.1
  show own_Go p.tables e below K (T7.setTop (mkF m 8 #[.val (.long q1), .second, .unset, .unset, .unset, .unset, .unset] [(.ref b6)]))
  refine own_by (fun t k => XS.astoreN X7.here hx rfl (hb hby at_8) rfl rfl (l' := #[.val (.long q1), .second, .val (.ref b6), .unset, .unset, .unset, .unset]) rfl k) ?_
  show own_Go p.tables e below K (T7.setTop (mkF m 9 #[.val (.long q1), .second, .val (.ref b6), .unset, .unset, .unset, .unset] []))
  refine own_by (fun t k => XS.aloadN X7.here hx rfl (hb hby at_9) rfl rfl k) ?_
  show own_Go p.tables e below K (T7.setTop (mkF m 10 #[.val (.long q1), .second, .val (.ref b6), .unset, .unset, .unset, .unset] [(.ref b6)]))
  obtain ⟨cq8, kq8, q8a, q8b, q8c⟩ := isOf hZ rfl Ep7
  obtain ⟨_, _, ⟨T8, L8, k8, n8⟩, -, X8, ⟨Lc8, hQ8, l8, y8, z8⟩, st8⟩ := X7.virtualBack hx (y := (⟨"com/example/manyfront/manyfront/core/RandomStream", "nextLong", "()J"⟩ : MethodName)) (z := (⟨"com/example/manyfront/manyfront/core/RandomStream", "nextLong", "()J"⟩ : MethodName)) hown (mvT hZ (hw _ (List.mem_of_getElem? (i := 11) rfl))) (mvT hZ (hw _ (List.mem_of_getElem? (i := 12) rfl))) (notFace_of_selects (args := #[]) (mvT hZ (hw _ (List.mem_of_getElem? (i := 14) rfl)))) (mvT hZ (hw _ (List.mem_of_getElem? (i := 14) rfl))) (mvT hZ (hw _ (List.mem_of_getElem? (i := 13) rfl))) (by decide) (backOf (W := 0) (own_rm2 l Z a0 hw [] b6 q1 T7.heap n0 Z7 Ep7 Fp7 gn_b6) hZ (hw _ (List.mem_of_getElem? (i := 15) rfl)) (hw _ (List.mem_of_getElem? (i := 2) rfl)) (by decide) (by decide)) q8a q8c (g := (mkF m 10 #[.val (.long q1), .second, .val (.ref b6), .unset, .unset, .unset, .unset] [(.ref b6)])) rfl (by rw [hml]; rfl) (Steps.refl _) (argsL := []) (rest := []) (lenOf own_pd1 rfl) rfl (by show 2 * 0 + _ ≤ _; exact Nat.le_of_eq rfl) (hb hby at_10) (fun _ _ => ⟨rfl, rfl, (by decide : 1 + 0 ≤ _), (by decide : 1 + 0 ≤ _)⟩)
  dsimp only [Pt.U, Pt.locs, Pt.cells, Pt.slots] at X8 l8 y8 z8 st8 hQ8
  subst l8 y8 z8
  obtain ⟨rfl, N8q, Kp8, Ep8, Fp8⟩ := hQ8
  have N8 := Fr.app N7 N8q
  refine own_by (fun t k => st8.trans k) ?_
  have Ex8_b6 := Ep7.keep Kp8
  have Z8 := Nat.le_trans Z7 Kp8.1
  show own_Go p.tables e below K (T8.setTop (mkF m 13 #[.val (.long q1), .second, .val (.ref b6), .unset, .unset, .unset, .unset] [(.long (own_mix (q1 + (-7046029254386353131 : Int64))))]))
  refine own_by (fun t k => XS.lstoreN X8.here hx rfl (hb hby at_13) rfl (l' := #[.val (.long q1), .second, .val (.ref b6), .val (.long (own_mix (q1 + (-7046029254386353131 : Int64)))), .second, .unset, .unset]) rfl k) ?_
  show own_Go p.tables e below K (T8.setTop (mkF m 14 #[.val (.long q1), .second, .val (.ref b6), .val (.long (own_mix (q1 + (-7046029254386353131 : Int64)))), .second, .unset, .unset] []))
  refine own_by (fun t k => XS.aloadN X8.here hx rfl (hb hby at_14) rfl rfl k) ?_
  show own_Go p.tables e below K (T8.setTop (mkF m 15 #[.val (.long q1), .second, .val (.ref b6), .val (.long (own_mix (q1 + (-7046029254386353131 : Int64)))), .second, .unset, .unset] [(.ref b6)]))
  obtain ⟨cq9, kq9, q9a, q9b, q9c⟩ := isOf hZ rfl Ep8
  obtain ⟨_, _, ⟨T9, L9, k9, n9⟩, -, X9, ⟨Lc9, hQ9, l9, y9, z9⟩, st9⟩ := X8.virtualBack hx (y := (⟨"com/example/manyfront/manyfront/core/RandomStream", "nextLong", "()J"⟩ : MethodName)) (z := (⟨"com/example/manyfront/manyfront/core/RandomStream", "nextLong", "()J"⟩ : MethodName)) hown (mvT hZ (hw _ (List.mem_of_getElem? (i := 11) rfl))) (mvT hZ (hw _ (List.mem_of_getElem? (i := 12) rfl))) (notFace_of_selects (args := #[]) (mvT hZ (hw _ (List.mem_of_getElem? (i := 14) rfl)))) (mvT hZ (hw _ (List.mem_of_getElem? (i := 14) rfl))) (mvT hZ (hw _ (List.mem_of_getElem? (i := 13) rfl))) (by decide) (backOf (W := 0) (own_rm2 l Z a0 hw [] b6 (q1 + (-7046029254386353131 : Int64)) T8.heap n0 Z8 Ep8 Fp8 gn_b6) hZ (hw _ (List.mem_of_getElem? (i := 15) rfl)) (hw _ (List.mem_of_getElem? (i := 2) rfl)) (by decide) (by decide)) q9a q9c (g := (mkF m 15 #[.val (.long q1), .second, .val (.ref b6), .val (.long (own_mix (q1 + (-7046029254386353131 : Int64)))), .second, .unset, .unset] [(.ref b6)])) rfl (by rw [hml]; rfl) (Steps.refl _) (argsL := []) (rest := []) (lenOf own_pd1 rfl) rfl (by show 2 * 0 + _ ≤ _; exact Nat.le_of_eq rfl) (hb hby at_15) (fun _ _ => ⟨rfl, rfl, (by decide : 1 + 0 ≤ _), (by decide : 1 + 0 ≤ _)⟩)
  dsimp only [Pt.U, Pt.locs, Pt.cells, Pt.slots] at X9 l9 y9 z9 st9 hQ9
  subst l9 y9 z9
  obtain ⟨rfl, N9q, Kp9, Ep9, Fp9⟩ := hQ9
  have N9 := Fr.app N8 N9q
  refine own_by (fun t k => st9.trans k) ?_
  have Ex9_b6 := Ep8.keep Kp9
  have Z9 := Nat.le_trans Z8 Kp9.1
  show own_Go p.tables e below K (T9.setTop (mkF m 18 #[.val (.long q1), .second, .val (.ref b6), .val (.long (own_mix (q1 + (-7046029254386353131 : Int64)))), .second, .unset, .unset] [(.long (own_mix ((q1 + (-7046029254386353131 : Int64)) + (-7046029254386353131 : Int64))))]))
  refine own_by (fun t k => XS.lstore X9.here hx rfl (hb hby at_18) rfl (l' := #[.val (.long q1), .second, .val (.ref b6), .val (.long (own_mix (q1 + (-7046029254386353131 : Int64)))), .second, .val (.long (own_mix ((q1 + (-7046029254386353131 : Int64)) + (-7046029254386353131 : Int64)))), .second]) rfl k) ?_
  show own_Go p.tables e below K (T9.setTop (mkF m 20 #[.val (.long q1), .second, .val (.ref b6), .val (.long (own_mix (q1 + (-7046029254386353131 : Int64)))), .second, .val (.long (own_mix ((q1 + (-7046029254386353131 : Int64)) + (-7046029254386353131 : Int64)))), .second] []))
  refine own_by (fun t k => XS.lloadN X9.here hx rfl (hb hby at_20) rfl k) ?_
  show own_Go p.tables e below K (T9.setTop (mkF m 21 #[.val (.long q1), .second, .val (.ref b6), .val (.long (own_mix (q1 + (-7046029254386353131 : Int64)))), .second, .val (.long (own_mix ((q1 + (-7046029254386353131 : Int64)) + (-7046029254386353131 : Int64)))), .second] [(.long (own_mix (q1 + (-7046029254386353131 : Int64))))]))
  obtain ⟨_, _, ⟨T10, L10, k10, n10⟩, -, X10, ⟨Lc10, hQ10, l10, y10, z10⟩, st10⟩ := Jvm.LawKit.callS X9 hx (y := (⟨"com/example/manyfront/manyfront/core/RandomStreamNextLongPinLaw", "unmix", "(J)J"⟩ : MethodName)) hown (mvT hZ (hw _ (List.mem_of_getElem? (i := 19) rfl))) (mvT hZ (hw _ (List.mem_of_getElem? (i := 20) rfl))) (mvT hZ (hw _ (List.mem_of_getElem? (i := 21) rfl))) (mvT hZ (hw _ (List.mem_of_getElem? (i := 22) rfl))) (by decide) (backOf (W := 0) (own_rm3 l Z a0 hw [] (own_mix (q1 + (-7046029254386353131 : Int64))) T9.heap n0 Z9) hZ (hw _ (List.mem_of_getElem? (i := 22) rfl)) (hw _ (List.mem_of_getElem? (i := 21) rfl)) (by decide) (by decide)) (g := (mkF m 21 #[.val (.long q1), .second, .val (.ref b6), .val (.long (own_mix (q1 + (-7046029254386353131 : Int64)))), .second, .val (.long (own_mix ((q1 + (-7046029254386353131 : Int64)) + (-7046029254386353131 : Int64)))), .second] [(.long (own_mix (q1 + (-7046029254386353131 : Int64))))])) rfl (by rw [hml]; rfl) (argsL := [(.long (own_mix (q1 + (-7046029254386353131 : Int64))))]) (rest := []) (lenOf own_pd2 rfl) rfl (by show 2 * 0 + _ ≤ _; exact Nat.le_of_eq rfl) (hb hby at_21) (fun _ _ => ⟨rfl, rfl, (by decide : 1 + 0 ≤ _), (by decide : 1 + 0 ≤ _)⟩)
  dsimp only [Pt.U, Pt.locs, Pt.cells, Pt.slots] at X10 l10 y10 z10 st10 hQ10
  subst l10 y10 z10
  obtain ⟨rfl, N10q, e10⟩ := hQ10
  have N10 := Fr.app N9 N10q
  refine own_by st10 ?_
  show own_Go p.tables e below K (T10.setTop (mkF m 24 #[.val (.long q1), .second, .val (.ref b6), .val (.long (own_mix (q1 + (-7046029254386353131 : Int64)))), .second, .val (.long (own_mix ((q1 + (-7046029254386353131 : Int64)) + (-7046029254386353131 : Int64)))), .second] [(.long (own_unmix (own_mix (q1 + (-7046029254386353131 : Int64)))))]))
  refine own_by (fun t k => XS.lloadN X10.here hx rfl (hb hby at_24) rfl k) ?_
  show own_Go p.tables e below K (T10.setTop (mkF m 25 #[.val (.long q1), .second, .val (.ref b6), .val (.long (own_mix (q1 + (-7046029254386353131 : Int64)))), .second, .val (.long (own_mix ((q1 + (-7046029254386353131 : Int64)) + (-7046029254386353131 : Int64)))), .second] [(.long q1), (.long (own_unmix (own_mix (q1 + (-7046029254386353131 : Int64)))))]))
  refine own_by (fun t k => X10.ldc2Long hx hown (mvT hZ (hw _ (List.mem_of_getElem? (i := 25) rfl))) (g := (mkF m 25 #[.val (.long q1), .second, .val (.ref b6), .val (.long (own_mix (q1 + (-7046029254386353131 : Int64)))), .second, .val (.long (own_mix ((q1 + (-7046029254386353131 : Int64)) + (-7046029254386353131 : Int64)))), .second] [(.long q1), (.long (own_unmix (own_mix (q1 + (-7046029254386353131 : Int64)))))])) rfl (hb hby at_25) _ k) ?_
  show own_Go p.tables e below K (T10.setTop (mkF m 28 #[.val (.long q1), .second, .val (.ref b6), .val (.long (own_mix (q1 + (-7046029254386353131 : Int64)))), .second, .val (.long (own_mix ((q1 + (-7046029254386353131 : Int64)) + (-7046029254386353131 : Int64)))), .second] [(.long (-7046029254386353131 : Int64)), (.long q1), (.long (own_unmix (own_mix (q1 + (-7046029254386353131 : Int64)))))]))
  refine own_by (fun t k => XS.ladd X10.here hx rfl (hb hby at_28) rfl k) ?_
  show own_Go p.tables e below K (T10.setTop (mkF m 29 #[.val (.long q1), .second, .val (.ref b6), .val (.long (own_mix (q1 + (-7046029254386353131 : Int64)))), .second, .val (.long (own_mix ((q1 + (-7046029254386353131 : Int64)) + (-7046029254386353131 : Int64)))), .second] [(.long (q1 + (-7046029254386353131 : Int64))), (.long (own_unmix (own_mix (q1 + (-7046029254386353131 : Int64)))))]))
  refine own_by (fun t k => XS.lcmp X10.here hx rfl (hb hby at_29) rfl k) ?_
  show own_Go p.tables e below K (T10.setTop (mkF m 30 #[.val (.long q1), .second, .val (.ref b6), .val (.long (own_mix (q1 + (-7046029254386353131 : Int64)))), .second, .val (.long (own_mix ((q1 + (-7046029254386353131 : Int64)) + (-7046029254386353131 : Int64)))), .second] [(.int (lcmpW (own_unmix (own_mix (q1 + (-7046029254386353131 : Int64)))) (q1 + (-7046029254386353131 : Int64))))]))
  have hc30 : (own_unmix (own_mix (q1 + (-7046029254386353131 : Int64)))) = (q1 + (-7046029254386353131 : Int64)) := own_un _
  refine own_by (fun t k => XS.ifNo X10.here hx rfl (hb hby at_30) rfl (own_leq hc30).2 k) ?_
  show own_Go p.tables e below K (T10.setTop (mkF m 33 #[.val (.long q1), .second, .val (.ref b6), .val (.long (own_mix (q1 + (-7046029254386353131 : Int64)))), .second, .val (.long (own_mix ((q1 + (-7046029254386353131 : Int64)) + (-7046029254386353131 : Int64)))), .second] []))
  refine own_by (fun t k => XS.lload X10.here hx rfl (hb hby at_33) rfl k) ?_
  show own_Go p.tables e below K (T10.setTop (mkF m 35 #[.val (.long q1), .second, .val (.ref b6), .val (.long (own_mix (q1 + (-7046029254386353131 : Int64)))), .second, .val (.long (own_mix ((q1 + (-7046029254386353131 : Int64)) + (-7046029254386353131 : Int64)))), .second] [(.long (own_mix ((q1 + (-7046029254386353131 : Int64)) + (-7046029254386353131 : Int64))))]))
  obtain ⟨_, _, ⟨T11, L11, k11, n11⟩, -, X11, ⟨Lc11, hQ11, l11, y11, z11⟩, st11⟩ := Jvm.LawKit.callS X10 hx (y := (⟨"com/example/manyfront/manyfront/core/RandomStreamNextLongPinLaw", "unmix", "(J)J"⟩ : MethodName)) hown (mvT hZ (hw _ (List.mem_of_getElem? (i := 19) rfl))) (mvT hZ (hw _ (List.mem_of_getElem? (i := 20) rfl))) (mvT hZ (hw _ (List.mem_of_getElem? (i := 21) rfl))) (mvT hZ (hw _ (List.mem_of_getElem? (i := 22) rfl))) (by decide) (backOf (W := 0) (own_rm3 l Z a0 hw [] (own_mix ((q1 + (-7046029254386353131 : Int64)) + (-7046029254386353131 : Int64))) T9.heap n0 Z9) hZ (hw _ (List.mem_of_getElem? (i := 22) rfl)) (hw _ (List.mem_of_getElem? (i := 21) rfl)) (by decide) (by decide)) (g := (mkF m 35 #[.val (.long q1), .second, .val (.ref b6), .val (.long (own_mix (q1 + (-7046029254386353131 : Int64)))), .second, .val (.long (own_mix ((q1 + (-7046029254386353131 : Int64)) + (-7046029254386353131 : Int64)))), .second] [(.long (own_mix ((q1 + (-7046029254386353131 : Int64)) + (-7046029254386353131 : Int64))))])) rfl (by rw [hml]; rfl) (argsL := [(.long (own_mix ((q1 + (-7046029254386353131 : Int64)) + (-7046029254386353131 : Int64))))]) (rest := []) (lenOf own_pd2 rfl) rfl (by show 2 * 0 + _ ≤ _; exact Nat.le_of_eq rfl) (hb hby at_35) (fun _ _ => ⟨rfl, e10, (by decide : 1 + 0 ≤ _), (by decide : 1 + 0 ≤ _)⟩)
  dsimp only [Pt.U, Pt.locs, Pt.cells, Pt.slots] at X11 l11 y11 z11 st11 hQ11
  subst l11 y11 z11
  obtain ⟨rfl, N11q, e11⟩ := hQ11
  have N11 := Fr.app N10 N11q
  refine own_by st11 ?_
  show own_Go p.tables e below K (T11.setTop (mkF m 38 #[.val (.long q1), .second, .val (.ref b6), .val (.long (own_mix (q1 + (-7046029254386353131 : Int64)))), .second, .val (.long (own_mix ((q1 + (-7046029254386353131 : Int64)) + (-7046029254386353131 : Int64)))), .second] [(.long (own_unmix (own_mix ((q1 + (-7046029254386353131 : Int64)) + (-7046029254386353131 : Int64)))))]))
  refine own_by (fun t k => XS.lloadN X11.here hx rfl (hb hby at_38) rfl k) ?_
  show own_Go p.tables e below K (T11.setTop (mkF m 39 #[.val (.long q1), .second, .val (.ref b6), .val (.long (own_mix (q1 + (-7046029254386353131 : Int64)))), .second, .val (.long (own_mix ((q1 + (-7046029254386353131 : Int64)) + (-7046029254386353131 : Int64)))), .second] [(.long q1), (.long (own_unmix (own_mix ((q1 + (-7046029254386353131 : Int64)) + (-7046029254386353131 : Int64)))))]))
  refine own_by (fun t k => X11.ldc2Long hx hown (mvT hZ (hw _ (List.mem_of_getElem? (i := 25) rfl))) (g := (mkF m 39 #[.val (.long q1), .second, .val (.ref b6), .val (.long (own_mix (q1 + (-7046029254386353131 : Int64)))), .second, .val (.long (own_mix ((q1 + (-7046029254386353131 : Int64)) + (-7046029254386353131 : Int64)))), .second] [(.long q1), (.long (own_unmix (own_mix ((q1 + (-7046029254386353131 : Int64)) + (-7046029254386353131 : Int64)))))])) rfl (hb hby at_39) _ k) ?_
  show own_Go p.tables e below K (T11.setTop (mkF m 42 #[.val (.long q1), .second, .val (.ref b6), .val (.long (own_mix (q1 + (-7046029254386353131 : Int64)))), .second, .val (.long (own_mix ((q1 + (-7046029254386353131 : Int64)) + (-7046029254386353131 : Int64)))), .second] [(.long (-7046029254386353131 : Int64)), (.long q1), (.long (own_unmix (own_mix ((q1 + (-7046029254386353131 : Int64)) + (-7046029254386353131 : Int64)))))]))
  refine own_by (fun t k => XS.ladd X11.here hx rfl (hb hby at_42) rfl k) ?_
  show own_Go p.tables e below K (T11.setTop (mkF m 43 #[.val (.long q1), .second, .val (.ref b6), .val (.long (own_mix (q1 + (-7046029254386353131 : Int64)))), .second, .val (.long (own_mix ((q1 + (-7046029254386353131 : Int64)) + (-7046029254386353131 : Int64)))), .second] [(.long (q1 + (-7046029254386353131 : Int64))), (.long (own_unmix (own_mix ((q1 + (-7046029254386353131 : Int64)) + (-7046029254386353131 : Int64)))))]))
  refine own_by (fun t k => X11.ldc2Long hx hown (mvT hZ (hw _ (List.mem_of_getElem? (i := 25) rfl))) (g := (mkF m 43 #[.val (.long q1), .second, .val (.ref b6), .val (.long (own_mix (q1 + (-7046029254386353131 : Int64)))), .second, .val (.long (own_mix ((q1 + (-7046029254386353131 : Int64)) + (-7046029254386353131 : Int64)))), .second] [(.long (q1 + (-7046029254386353131 : Int64))), (.long (own_unmix (own_mix ((q1 + (-7046029254386353131 : Int64)) + (-7046029254386353131 : Int64)))))])) rfl (hb hby at_43) _ k) ?_
  show own_Go p.tables e below K (T11.setTop (mkF m 46 #[.val (.long q1), .second, .val (.ref b6), .val (.long (own_mix (q1 + (-7046029254386353131 : Int64)))), .second, .val (.long (own_mix ((q1 + (-7046029254386353131 : Int64)) + (-7046029254386353131 : Int64)))), .second] [(.long (-7046029254386353131 : Int64)), (.long (q1 + (-7046029254386353131 : Int64))), (.long (own_unmix (own_mix ((q1 + (-7046029254386353131 : Int64)) + (-7046029254386353131 : Int64)))))]))
  refine own_by (fun t k => XS.ladd X11.here hx rfl (hb hby at_46) rfl k) ?_
  show own_Go p.tables e below K (T11.setTop (mkF m 47 #[.val (.long q1), .second, .val (.ref b6), .val (.long (own_mix (q1 + (-7046029254386353131 : Int64)))), .second, .val (.long (own_mix ((q1 + (-7046029254386353131 : Int64)) + (-7046029254386353131 : Int64)))), .second] [(.long ((q1 + (-7046029254386353131 : Int64)) + (-7046029254386353131 : Int64))), (.long (own_unmix (own_mix ((q1 + (-7046029254386353131 : Int64)) + (-7046029254386353131 : Int64)))))]))
  refine own_by (fun t k => XS.lcmp X11.here hx rfl (hb hby at_47) rfl k) ?_
  show own_Go p.tables e below K (T11.setTop (mkF m 48 #[.val (.long q1), .second, .val (.ref b6), .val (.long (own_mix (q1 + (-7046029254386353131 : Int64)))), .second, .val (.long (own_mix ((q1 + (-7046029254386353131 : Int64)) + (-7046029254386353131 : Int64)))), .second] [(.int (lcmpW (own_unmix (own_mix ((q1 + (-7046029254386353131 : Int64)) + (-7046029254386353131 : Int64)))) ((q1 + (-7046029254386353131 : Int64)) + (-7046029254386353131 : Int64))))]))
  have hc48 : (own_unmix (own_mix ((q1 + (-7046029254386353131 : Int64)) + (-7046029254386353131 : Int64)))) = ((q1 + (-7046029254386353131 : Int64)) + (-7046029254386353131 : Int64)) := own_un _
  refine own_by (fun t k => XS.ifNo X11.here hx rfl (hb hby at_48) rfl (own_leq hc48).2 k) ?_
  show own_Go p.tables e below K (T11.setTop (mkF m 51 #[.val (.long q1), .second, .val (.ref b6), .val (.long (own_mix (q1 + (-7046029254386353131 : Int64)))), .second, .val (.long (own_mix ((q1 + (-7046029254386353131 : Int64)) + (-7046029254386353131 : Int64)))), .second] []))
  refine own_by (fun t k => XS.iconst X11.here hx rfl (hb hby at_51) k) ?_
  show own_Go p.tables e below K (T11.setTop (mkF m 52 #[.val (.long q1), .second, .val (.ref b6), .val (.long (own_mix (q1 + (-7046029254386353131 : Int64)))), .second, .val (.long (own_mix ((q1 + (-7046029254386353131 : Int64)) + (-7046029254386353131 : Int64)))), .second] [(.int (1 : Int32))]))
  refine own_by (fun t k => XS.goto X11.here hx rfl (pc0 := 52) (pc' := 56) rfl (hb hby at_52) (by decide) (by decide) k) ?_
  show own_Go p.tables e below K (T11.setTop (mkF m 56 #[.val (.long q1), .second, .val (.ref b6), .val (.long (own_mix (q1 + (-7046029254386353131 : Int64)))), .second, .val (.long (own_mix ((q1 + (-7046029254386353131 : Int64)) + (-7046029254386353131 : Int64)))), .second] [(.int (1 : Int32))]))
  exact own_retZ X11 hx (t := .boolean) hret (by simp) (hb hby at_56) (hK (some (.int (1 : Int32))) X11 (fun h => by rw [hret] at h; cases h) (⟨rfl, N11⟩) (by decide) (by decide))
set_option maxRecDepth 65536 in
set_option maxHeartbeats 40000000 in
theorem own_comes {Post : Tables → Env → Array Value → State → Outcome → State → Prop} (hpost : ∀ tb e args s v u, (limb_1_1.after args s (.returned v) u = true ∧ limb_1_2.after args s (.returned v) u = true ∧ True) → FrameEnd s (.returned v) u (Jvm.fieldLocs frame_1_writes args s ++ Jvm.arrayLocs frame_1_arrays args s ++ Jvm.staticLocs frame_1_statics s) 16 128 → Post tb e args s (.returned v) u) :
    ArmFor flags0 classFile x code maxLocals ret World_1 tables_1 room_1 Calls_1 rest_1 Pre_1 Post := by
  intro l hfl _ _ p e ha hc hk s m args below hf hA hF happ hP
  obtain ⟨hcalls, hrest, hpre⟩ := hP
  obtain ⟨-, -, -, hnamed, -, -, -, hat⟩ := (Spec.applies_iff hf).mp happ
  obtain ⟨hg, hn⟩ := and_e (Cond.before_iff.mp (show (Jvm.Cond.and given_1 narrow_1).before args s = true from hpre))
  obtain ⟨hcount, g0⟩ := and_e hg
  obtain ⟨w0, rfl⟩ : ∃ w0 : Value, args = #[w0] := by
    have hs : args.size = 1 := by simpa [Cond.value, given_1] using hcount
    obtain ⟨L⟩ := args
    match L, hs with
    | [w0], _ => exact ⟨w0, rfl⟩
  have hw := fun d (hd : d ∈ tables_1) => atoms_spec (ws := Jvm.Cond.code x code maxLocals ret :: tables_1) hat d (List.mem_cons_of_mem _ hd)
  have hfit : Fit s := fun {y c} hc i hi => by
    obtain ⟨ha, rfl⟩ := Array.getElem?_eq_some_iff.mp hc
    have q := List.all_eq_true.mp ((Array.all_eq_true_iff_forall_mem.mp hF) _ (Array.getElem_mem ha)) i (List.mem_range.mpr hi)
    simpa [Array.getElem?_eq_getElem hi] using q
  obtain ⟨i0, ei0⟩ := isL_v g0
  obtain rfl : w0 = (.long i0) := Option.some.inj ei0
  obtain ⟨n, o, h1, h2, h3, _, L, rfl, ⟨rfl, N⟩, hq⟩ := own_rm0 l s _ hw tables_1 i0 s.heap s.heap.size (Nat.le_refl _)  p e ha hc hk s m _ below hf ((Spec.applies_iff_loose hf).mp happ).1 ⟨rfl, State.Warmed39.refl s, rfl⟩ trivial
  refine ⟨n, _, h1, h2, h3, hpost _ _ _ _ _ _ ⟨Cond.after_iff.mpr rfl, Cond.after_iff.mpr (eq_i res_at (Term.int_eval (1)) rfl), trivial⟩ ⟨hq.1, hq.2.1, (hq.2.2.sift fun y hy => Or.inr (N y hy)).mono (by decide) (by decide)⟩⟩
theorem main_1_1 : Claimed_1_1 := own_comes fun _ _ _ _ _ _ h hF => ⟨h.1, hF⟩
theorem main_1_2 : Claimed_1_2 := own_comes fun _ _ _ _ _ _ h hF => ⟨h.2.1, hF⟩
end Jvm.Pilot.@@N@@
namespace Jvm.Pilot.@@N@@
open Jvm Jvm.ClassFile Sem Op Lib Jvm.Free Jvm.Stand Jvm.Pilot.@@N@@.Jvm.D
/-! MADE BY PROGRAM (witnessworld.py) out of the Statement's table words and the real class files: 9 classes; the members and pool entries that the words name. The judged class is class 1, her method 2. -/
namespace start1
open Jvm.ClassFile
def u (s : String) : CpInfo := .utf8 (stringToUtf16 s)
/-- a pool by its gaps: so many unusable entries, then the entry; so many at the end -/
def gap : Nat → List CpInfo → List CpInfo
  | 0, r => r
  | n + 1, r => .unusable :: gap n r
def poolList (es : List (Nat × CpInfo)) (last : Nat) : List CpInfo := es.foldr (fun e r => gap e.1 (e.2 :: r)) (gap last [])
def pool (es : List (Nat × CpInfo)) (last : Nat) : Array CpInfo := ⟨poolList es last⟩
def fileOf (pool : Array CpInfo) (this : Nat) (attrs : Array Attribute := #[]) (ms : Array MethodInfo := #[]) (fl : Nat := 33) (sup : Nat := 0) (ifs : Array Nat := #[]) (fds : Array FieldInfo := #[]) : ClassFile where
  minorVersion := 0
  majorVersion := 65
  constantPool := pool
  accessFlags := fl
  thisClass := this
  superClass := sup
  interfaces := ifs
  fields := fds
  methods := ms
  attributes := attrs
def plain (name : String) (sup : Option ClassId) : Class where
  name := name
  kind := .ordinary
  loader := none
  accessFlags := 33
  super := sup
  interfaces := #[]
  cf := none
  fields := #[]
  methods := #[]
  instanceTypes := #[]
  staticTypes := #[]
  resolved := #[]
  callSites := []
  init := .initialized
  statics := none
  mirror := none

def pool0 : Array CpInfo := pool [(5, u "<init>"), (0, u "()V"), (1, .class_ 10), (1, u "java/lang/Object")] 113

def k0c0 : Code := { maxStack := 0, maxLocals := 1, code := object_method_1_code, exceptionTable := #[], attributes := #[] }
def k0m0 : Method := { name := "<init>", desc := "()V", sig := { parameters := [], returnType := none }, accessFlags := 1, code := some k0c0 }
/-- java/lang/Object -/
def k0 : Class := { plain "java/lang/Object" none with
  accessFlags := 33
  interfaces := #[]
  cf := some (fileOf pool0 8 #[] #[{ accessFlags := 1, nameIndex := 5, descriptorIndex := 6, attributes := #[] }] 33 0 #[] #[])
  fields := #[]
  methods := #[k0m0]
  instanceTypes := #[]
  staticTypes := #[]
  resolved := Array.replicate 124 none
  statics := none }

def pool1 : Array CpInfo := pool [(2, .class_ 4), (1, u "java/lang/Object"), (0, u "<init>"), (0, u "()V"), (0, .long 3573116690164977347), (1, .long 10871156337175269513), (1, .class_ 12), (0, u "com/example/manyfront/manyfront/core/RandomStream"), (0, .methodref 11 14), (0, .nameAndType 5 15), (0, u "(J)V"), (0, .methodref 11 17), (0, .nameAndType 18 19), (0, u "nextLong"), (0, u "()J"), (0, .methodref 21 22), (0, .class_ 23), (0, .nameAndType 24 25), (0, u "com/example/manyfront/manyfront/core/RandomStreamNextLongPinLaw"), (0, u "unmix"), (0, u "(J)J"), (0, .long 11400714819323198485), (1, u "GAMMA"), (0, u "J"), (3, u "law"), (0, u "(J)Z")] 3

def k1m0 : Method := { name := "<init>", desc := "()V", sig := { parameters := [], returnType := none }, accessFlags := 1, code := none }
def k1c1 : Code := { maxStack := 5, maxLocals := 4, code := method_2_code, exceptionTable := #[], attributes := #[] }
def k1m1 : Method := { name := "unmix", desc := "(J)J", sig := { parameters := [.long], returnType := some .long }, accessFlags := 10, code := some k1c1 }
def k1c2 : Code := { maxStack := 6, maxLocals := 7, code := code, exceptionTable := #[], attributes := #[] }
def k1m2 : Method := { name := "law", desc := "(J)Z", sig := { parameters := [.long], returnType := some .boolean }, accessFlags := 9, code := some k1c2 }
/-- com/example/manyfront/manyfront/core/RandomStreamNextLongPinLaw -/
def k1 : Class := { plain "com/example/manyfront/manyfront/core/RandomStreamNextLongPinLaw" (some 0) with
  accessFlags := 49
  interfaces := #[]
  cf := some (fileOf pool1 21 #[] #[{ accessFlags := 1, nameIndex := 5, descriptorIndex := 6, attributes := #[] }, { accessFlags := 10, nameIndex := 24, descriptorIndex := 25, attributes := #[] }, { accessFlags := 9, nameIndex := 33, descriptorIndex := 34, attributes := #[] }] 49 2 #[] #[{ accessFlags := 26, nameIndex := 28, descriptorIndex := 29, attributes := #[] }])
  fields := #[{ name := "GAMMA", type := .long, accessFlags := 26, slot := 0, constantValue := 0 }]
  methods := #[k1m0, k1m1, k1m2]
  instanceTypes := #[]
  staticTypes := #[.long]
  resolved := Array.replicate 38 none
  statics := none }

def pool2 : Array CpInfo := pool [(1, .methodref 2 3), (0, .class_ 4), (0, .nameAndType 5 6), (0, u "java/lang/Object"), (0, u "<init>"), (0, u "()V"), (0, .fieldref 8 9), (0, .class_ 10), (0, .nameAndType 11 12), (0, u "com/example/manyfront/manyfront/core/RandomStream"), (0, u "state"), (0, u "J"), (0, .long 11400714819323198485), (1, .long 13787848793156543929), (1, .long 10723151780598845931), (3, u "nextLong"), (0, u "()J"), (11, u "GAMMA"), (1, u "DOUBLE_UNIT"), (0, u "D"), (0, u "(J)V")] 24

def k2c0 : Code := { maxStack := 3, maxLocals := 3, code := prog_14_method_1_code, exceptionTable := #[], attributes := #[] }
def k2m0 : Method := { name := "<init>", desc := "(J)V", sig := { parameters := [.long], returnType := none }, accessFlags := 1, code := some k2c0 }
def k2c1 : Code := { maxStack := 5, maxLocals := 3, code := prog_14_method_2_code, exceptionTable := #[], attributes := #[] }
def k2m1 : Method := { name := "nextLong", desc := "()J", sig := { parameters := [], returnType := some .long }, accessFlags := 1, code := some k2c1 }
/-- com/example/manyfront/manyfront/core/RandomStream -/
def k2 : Class := { plain "com/example/manyfront/manyfront/core/RandomStream" (some 0) with
  accessFlags := 49
  interfaces := #[]
  cf := some (fileOf pool2 8 #[] #[{ accessFlags := 1, nameIndex := 5, descriptorIndex := 38, attributes := #[] }, { accessFlags := 1, nameIndex := 21, descriptorIndex := 22, attributes := #[] }] 49 2 #[] #[{ accessFlags := 26, nameIndex := 34, descriptorIndex := 12, attributes := #[] }, { accessFlags := 26, nameIndex := 36, descriptorIndex := 37, attributes := #[] }, { accessFlags := 2, nameIndex := 11, descriptorIndex := 12, attributes := #[] }])
  fields := #[{ name := "GAMMA", type := .long, accessFlags := 26, slot := 0, constantValue := 0 }, { name := "DOUBLE_UNIT", type := .double, accessFlags := 26, slot := 1, constantValue := 0 }, { name := "state", type := .long, accessFlags := 2, slot := 0, constantValue := 0 }]
  methods := #[k2m0, k2m1]
  instanceTypes := #[.long]
  staticTypes := #[.long, .double]
  resolved := Array.replicate 63 none
  statics := none }

def pool3 : Array CpInfo := pool [(1, u "java/lang/Cloneable"), (0, .class_ 1), (0, u "java/lang/Object"), (0, .class_ 3)] 3

/-- java/lang/Cloneable -/
def k3 : Class := { plain "java/lang/Cloneable" (some 0) with
  accessFlags := 1537
  interfaces := #[]
  cf := some (fileOf pool3 2 #[] #[] 1537 4 #[] #[])
  fields := #[]
  methods := #[]
  instanceTypes := #[]
  staticTypes := #[]
  resolved := Array.replicate 8 none
  statics := none }

def pool4 : Array CpInfo := pool [(1, u "java/io/Serializable"), (0, .class_ 1), (0, u "java/lang/Object"), (0, .class_ 3)] 3

/-- java/io/Serializable -/
def k4 : Class := { plain "java/io/Serializable" (some 0) with
  accessFlags := 1537
  interfaces := #[]
  cf := some (fileOf pool4 2 #[] #[] 1537 4 #[] #[])
  fields := #[]
  methods := #[]
  instanceTypes := #[]
  staticTypes := #[]
  resolved := Array.replicate 8 none
  statics := none }

/-- the primitive byte -/
def k5 : Class := { plain "byte" none with kind := .primitive 'B', accessFlags := 0x411 }
/-- [B -/
def k6 : Class := { plain "[B" (some 0) with kind := .array 5 .byte, interfaces := #[3, 4], accessFlags := 1041 }

/-- the primitive int -/
def k7 : Class := { plain "int" none with kind := .primitive 'I', accessFlags := 0x411 }
/-- [I -/
def k8 : Class := { plain "[I" (some 0) with kind := .array 7 .int, interfaces := #[3, 4], accessFlags := 1041 }

def heap : Heap := #[]
def classes : Array Class := #[k0, k1, k2, k3, k4, k5, k6, k7, k8]
def interned : List (Array UInt16 × Addr) := []
def slotsUsed : Nat := 0
def theMethod : MethodId := ⟨1, 2⟩
def args0 : Array Value := #[.long 5]
def aboutOver (below : List Frame) : State where
  vm := { classes := classes, interned := interned.toArray }
  heap := heap
  slotsUsed := slotsUsed
  threads := #[{ frames := .invoking theMethod args0 :: below }]
def below0 : List Frame := [.native { method := ⟨0, 0⟩, args := #[] }]
def about1 : State := aboutOver below0
def p0 : Program := .bare "" "" ""
def e0 : Env := launch0.env 0 0 0
theorem w_frames : about1.frames = Frame.invoking theMethod args0 :: below0 := rfl
set_option maxRecDepth 65536 in
theorem w_args : argsFit about1.vm theMethod args0 = true := by decide +kernel
set_option maxRecDepth 65536 in
theorem w_heap : heapFits about1 = true := by decide +kernel
set_option maxRecDepth 65536 in
theorem w_runnable : about1.curStatus? = some .runnable := by decide +kernel
set_option maxRecDepth 65536 in
theorem w_alone : about1.alone = true := by decide +kernel
set_option maxRecDepth 65536 in
theorem w_named : about1.methodNamed? x = some theMethod := by decide +kernel
set_option maxRecDepth 65536 in
theorem w_hears : about1.hears theMethod below0 = true := by decide +kernel
set_option maxRecDepth 65536 in
theorem w_ripe : about1.ripe theMethod args0 below0 = true := by decide +kernel
theorem w_running : about1.status = .running := rfl
set_option maxRecDepth 65536 in
theorem w_room : about1.hasRoom e0.platform room_1 = true :=
  launch0.hasRoom_least _ room_1 (by decide +kernel) (by decide +kernel) (by decide +kernel) (by decide +kernel) (by decide +kernel) (by decide +kernel)
theorem allAtoms_all (ts : List Jvm.Cond) (a : Array Jvm.Value) (st : Jvm.State) : (allAtoms ts).before a st = ts.all (fun c => c.before a st) := by
  induction ts with
  | nil => rfl
  | cons c t ih =>
    show (Jvm.Cond.and c (allAtoms t)).before a st = _
    rw [Jvm.Cond.before_and, ih, List.all_cons]
def words1 : List Jvm.Cond := Jvm.Cond.code x code maxLocals ret :: tables_1
/-- a 'code' word, met by the world's own term for the bytes: nothing is compared byte by byte -/
theorem code_word {y : MethodName} {bytes : ByteArray} {mx : Nat} {rt : Option FieldType} {a : Array Value} {s : State} {m : MethodId} {meth : Method} {c : Code} (h1 : s.methodNamed? y = some m) (h2 : s.vm.method? m = some meth) (h3 : meth.code = some c) (h4 : c.code = bytes)
    (h5 : (c.maxLocals == mx && c.exceptionTable.isEmpty && decide (c.maxStack ≤ mostOperands) && decide (meth.sig.returnType = rt) && !meth.locks && decide (parseMethodDescriptor y.desc = some meth.sig)) = true) : (Jvm.Cond.code y bytes mx rt).before a s = true := by
  simp only [Bool.and_eq_true, beq_iff_eq, Bool.not_eq_true', decide_eq_true_eq] at h5
  obtain ⟨⟨⟨⟨⟨g1, g2⟩, g3⟩, g4⟩, g5⟩, g6⟩ := h5
  simp [Cond.before, Cond.holds, Cond.value, h1, h2, h3, h4, g1, g2, g3, g4, g5, g6]
def isCode : Jvm.Cond → Bool
  | .code _ _ _ _ => true
  | _ => false
theorem all_split {L : List Jvm.Cond} {P : Jvm.Cond → Bool} (h1 : L.all (fun c => isCode c || P c) = true) (h2 : ∀ c ∈ L.filter isCode, P c = true) : L.all P = true := by
  refine List.all_eq_true.mpr fun c hc => ?_
  have h := List.all_eq_true.mp h1 c hc
  rcases Bool.eq_false_or_eq_true (isCode c) with hi | hi
  · exact h2 c (List.mem_filter.mpr ⟨hc, hi⟩)
  · simpa [hi] using h
set_option maxRecDepth 65536 in
theorem w_c0 : (Jvm.Cond.code x code maxLocals ret).before args0 about1 = true := code_word (m := ⟨1, 2⟩) (meth := k1m2) (c := k1c2) (by decide +kernel) rfl rfl rfl (by decide +kernel)
set_option maxRecDepth 65536 in
theorem w_c1 : (Jvm.Cond.code ({ cls := "com/example/manyfront/manyfront/core/RandomStream", name := "<init>", desc := "(J)V" } : Jvm.MethodName) prog_14_method_1_code (3 : Nat) (Option.none : Option Jvm.ClassFile.FieldType)).before args0 about1 = true := code_word (m := ⟨2, 0⟩) (meth := k2m0) (c := k2c0) (by decide +kernel) rfl rfl rfl (by decide +kernel)
set_option maxRecDepth 65536 in
theorem w_c2 : (Jvm.Cond.code ({ cls := "java/lang/Object", name := "<init>", desc := "()V" } : Jvm.MethodName) object_method_1_code (1 : Nat) (Option.none : Option Jvm.ClassFile.FieldType)).before args0 about1 = true := code_word (m := ⟨0, 0⟩) (meth := k0m0) (c := k0c0) (by decide +kernel) rfl rfl rfl (by decide +kernel)
set_option maxRecDepth 65536 in
theorem w_c3 : (Jvm.Cond.code ({ cls := "com/example/manyfront/manyfront/core/RandomStream", name := "nextLong", desc := "()J" } : Jvm.MethodName) prog_14_method_2_code (3 : Nat) (Option.some Jvm.ClassFile.FieldType.long)).before args0 about1 = true := code_word (m := ⟨2, 1⟩) (meth := k2m1) (c := k2c1) (by decide +kernel) rfl rfl rfl (by decide +kernel)
set_option maxRecDepth 65536 in
theorem w_c4 : (Jvm.Cond.code ({ cls := "com/example/manyfront/manyfront/core/RandomStreamNextLongPinLaw", name := "unmix", desc := "(J)J" } : Jvm.MethodName) method_2_code (4 : Nat) (Option.some Jvm.ClassFile.FieldType.long)).before args0 about1 = true := code_word (m := ⟨1, 1⟩) (meth := k1m1) (c := k1c1) (by decide +kernel) rfl rfl rfl (by decide +kernel)
def codes1 : List Jvm.Cond := [Jvm.Cond.code x code maxLocals ret, Jvm.Cond.code ({ cls := "com/example/manyfront/manyfront/core/RandomStream", name := "<init>", desc := "(J)V" } : Jvm.MethodName) prog_14_method_1_code (3 : Nat) (Option.none : Option Jvm.ClassFile.FieldType), Jvm.Cond.code ({ cls := "java/lang/Object", name := "<init>", desc := "()V" } : Jvm.MethodName) object_method_1_code (1 : Nat) (Option.none : Option Jvm.ClassFile.FieldType), Jvm.Cond.code ({ cls := "com/example/manyfront/manyfront/core/RandomStream", name := "nextLong", desc := "()J" } : Jvm.MethodName) prog_14_method_2_code (3 : Nat) (Option.some Jvm.ClassFile.FieldType.long), Jvm.Cond.code ({ cls := "com/example/manyfront/manyfront/core/RandomStreamNextLongPinLaw", name := "unmix", desc := "(J)J" } : Jvm.MethodName) method_2_code (4 : Nat) (Option.some Jvm.ClassFile.FieldType.long)]
set_option maxRecDepth 65536 in
theorem codes_eq : words1.filter isCode = codes1 := rfl
theorem w_codes : ∀ c ∈ words1.filter isCode, c.before args0 about1 = true := by
  rw [codes_eq]
  intro c hc
  simp only [codes1, List.mem_cons, List.not_mem_nil, or_false] at hc
  rcases hc with rfl | rfl | rfl | rfl | rfl
  · exact w_c0
  · exact w_c1
  · exact w_c2
  · exact w_c3
  · exact w_c4
set_option maxRecDepth 65536 in
theorem w_t1 : (words1.take 24).all (fun c => isCode c || c.before args0 about1) = true := by decide +kernel
set_option maxRecDepth 65536 in
theorem w_t2 : (words1.drop 24).all (fun c => isCode c || c.before args0 about1) = true := by decide +kernel
theorem w_tables : (allAtoms (Jvm.Cond.code x code maxLocals ret :: tables_1)).before args0 about1 = true := by
  rw [allAtoms_all]
  show words1.all (fun c => c.before args0 about1) = true
  refine all_split ?_ w_codes
  rw [← List.take_append_drop 24 words1, List.all_append, w_t1, w_t2]
  rfl
set_option maxRecDepth 65536 in
theorem w_case : (Jvm.Cond.and given_1 narrow_1).before args0 about1 = true := by decide +kernel
theorem w_applies : (headSpec (Jvm.Cond.code x code maxLocals ret :: tables_1) room_1).applies x e0.platform about1 = true :=
  (Spec.applies_iff w_frames).mpr ⟨w_running, w_runnable, w_alone, w_named, w_hears, w_ripe, w_room, w_tables⟩
theorem atStart : AtStart classFile x code maxLocals ret World_1 tables_1 room_1 Calls_1 rest_1 Pre_1 launch0 p0 e0 about1 theMethod args0 below0 :=
  ⟨lists_1, trivial, launch0.admits_env _ _ _, launch0.least_env, fairChoices_fair.cas, fairChoices_fair.clock, w_frames, w_args, w_heap, w_applies, trivial, trivial, w_case⟩
end start1
theorem witness_1 : WitnessClaimed_1 := ⟨start1.p0, start1.e0, start1.about1, start1.theMethod, start1.args0, start1.below0, start1.atStart⟩
end Jvm.Pilot.@@N@@
