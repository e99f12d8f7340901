import JvmDerived
import JvmDerived.Pilot.@@N@@Statement
import JvmDerived.Pilot.@@N@@Code
set_option linter.unusedVariables false
set_option linter.unusedSimpArgs false
namespace Jvm.Pilot.@@N@@
open Jvm Jvm.ClassFile Sem Op Lib Jvm.Free Jvm.Stand Jvm.LawKit Jvm.RoadKit Bundle Jvm.Pilot.@@N@@.Jvm.D
/-- from U the run comes to a state of which K holds -/
def own_Go (tb : Tables) (e : Env) (below : List Frame) (K : State → Prop) (U : State) : Prop := ∃ t, Steps tb e below U t ∧ K t
theorem own_by {tb : Tables} {e : Env} {below : List Frame} {K : State → Prop} {U U' : State} (k : ∀ t, Steps tb e below U' t → Steps tb e below U t) (h : own_Go tb e below K U') : own_Go tb e below K U := by
  obtain ⟨t, a, b⟩ := h
  exact ⟨t, k t a, b⟩
/-- what a returning instruction needs: the frames that it leaves, and that K holds there -/
def own_Out (e : Env) (m : MethodId) (K : State → Prop) (T : State) (v : Option Value) : Prop := ∃ fs, (∀ (f : JFrame) (acts : List Action), f.method = m → f.locked = none → f.entered = [] → (doReturn e (T.setTop f) acts v).1 = T.setFrames fs) ∧ K (T.setFrames fs)
theorem own_met {l : Launch} {y : MethodName} {bytes : ByteArray} {ml : Nat} {ret : Option FieldType} {ws : List Jvm.Cond} {rm : Room} {as' : Array Value} {Z : State} {h0 : Heap} {k n : Nat} {Q : Option Value → Heap → List Loc → Prop} (hp : plainFor y = true)
    (body : ∀ (p : Program) (e : Env) (s : State) (m : MethodId) (below : List Frame) (meth : Method) (c : Code) (s₁ : State) (K : State → Prop), p.tables.exec = Jvm.exec → c.code = bytes → c.maxLocals = ml → s.vm.findClass y.cls = some m.cls → meth.name = y.name → meth.sig.returnType = ret →
      Z.Warmed39 s.vm → Stand p l e rm s m as' below meth c s₁ [] 0 0 → s₁.heap = h0 →
      (∀ (v : Option Value) {T : State} {L : List Loc} {k' n' : Nat}, Stand p l e rm s m as' below meth c T L k' n' → (meth.sig.returnType = none → v = none) → Q v T.heap L → k' ≤ k → n' ≤ n → own_Out e m K T v) →
      own_Go p.tables e below K (s₁.setTop (entryFrame m as' ml))) :
    MetFree l y (head1 (Jvm.Cond.code y bytes ml ret :: ws) rm) (fun a U => a = as' ∧ Z.Warmed39 U.vm ∧ U.heap = h0) (fun _ _ _ _ _ => True) (fun _ U o U' => ∃ v L, o = .returned v ∧ Q v U'.heap L ∧ FrameEnd U o U' L k n) := by
  refine MetFree.of_bodySF hp hisR ?_
  intro p e s m args below meth c s₁ Bd hml0 hP hK
  obtain ⟨rfl, hZ, hh⟩ := hP
  have hown : s.vm.findClass y.cls = some m.cls := findClass_of_methodNamed Bd.named
  obtain ⟨t, hs, o, h1, h2, h3⟩ := body p e s m below meth c s₁ (fun t => ∃ o, t.status = .running ∧ Ended t below o ∧ ∃ v L, o = .returned v ∧ Q v t.heap L ∧ FrameEnd s o t L k n) Bd.exec Bd.bytes hml0 hown (name_of_methodNamed Bd.named Bd.method).1 Bd.returns hZ (Stand.of_body Bd) (by rw [← hh, Bd.state]; rfl) (by
    intro v T L k' n' X hv hq hk hn
    obtain ⟨fs, hr, hrun, hended, hW, hsame⟩ := X.leave (v := v) hv
    exact ⟨fs, hr, _, hrun, hended, v, L, rfl, hq, ⟨_, rfl⟩, hW, hsame.mono hk hn⟩)
  exact ⟨t, o, hs, h1, h2, h3⟩
section OwnRet
variable {p : Program} {l : Launch} {e : Env} {R : Room} {s : State} {m : MethodId} {args : Array Value} {below : List Frame} {meth : Method} {c : Code} {T : State} {locs : List Loc} {cells slots : Nat} {K : State → Prop}
theorem own_retI (X : Stand p l e R s m args below meth c T locs cells slots) (hx : p.tables.exec = Jvm.exec) (hret : meth.sig.returnType = some .int) {pc : Nat} {Ls : Array Slot} {z : Int32} {rest : List Value} (hd : decode c.code pc = .ok (.ireturn, 1)) (hq : own_Out e m K T (some (.int z))) : own_Go p.tables e below K (T.setTop (mkF m pc Ls (.int z :: rest))) := by
  obtain ⟨fs, hr, hk⟩ := hq
  exact ⟨_, retOut X hx hret rfl (Or.inl ⟨rfl, Or.inl rfl, _, rfl⟩) hd hr, hk⟩
theorem own_retZ (X : Stand p l e R s m args below meth c T locs cells slots) (hx : p.tables.exec = Jvm.exec) {t : FieldType} (hret : meth.sig.returnType = some t) (ht : t = .boolean ∨ t = .byte ∨ t = .char ∨ t = .short) {pc : Nat} {Ls : Array Slot} {z : Int32} {rest : List Value} (hd : decode c.code pc = .ok (.ireturn, 1)) (hq : own_Out e m K T (some (.int (nar t z)))) : own_Go p.tables e below K (T.setTop (mkF m pc Ls (.int z :: rest))) := by
  obtain ⟨fs, hr, hk⟩ := hq
  exact ⟨_, retN X hx hret ht hd hr, hk⟩
theorem own_retJ (X : Stand p l e R s m args below meth c T locs cells slots) (hx : p.tables.exec = Jvm.exec) (hret : meth.sig.returnType = some .long) {pc : Nat} {Ls : Array Slot} {z : Int64} {rest : List Value} (hd : decode c.code pc = .ok (.lreturn, 1)) (hq : own_Out e m K T (some (.long z))) : own_Go p.tables e below K (T.setTop (mkF m pc Ls (.long z :: rest))) := by
  obtain ⟨fs, hr, hk⟩ := hq
  exact ⟨_, retOut X hx hret rfl (Or.inr (Or.inl ⟨rfl, rfl, _, rfl⟩)) hd hr, hk⟩
theorem own_retA (X : Stand p l e R s m args below meth c T locs cells slots) (hx : p.tables.exec = Jvm.exec) {t : FieldType} (hret : meth.sig.returnType = some t) (ht : t.isReference = true) {pc : Nat} {Ls : Array Slot} {w : Value} {rest : List Value} (hn : narrow t w = w) (hw : w.isRef = true) (hd : decode c.code pc = .ok (.areturn, 1)) (hq : own_Out e m K T (some w)) : own_Go p.tables e below K (T.setTop (mkF m pc Ls (w :: rest))) := by
  obtain ⟨fs, hr, hk⟩ := hq
  exact ⟨_, retOut X hx hret hn (Or.inr (Or.inr (Or.inr (Or.inr ⟨rfl, ht, hw⟩)))) hd hr, hk⟩
theorem own_retV (X : Stand p l e R s m args below meth c T locs cells slots) (hx : p.tables.exec = Jvm.exec) (hret : meth.sig.returnType = none) {pc : Nat} {Ls : Array Slot} (hd : decode c.code pc = .ok (.return_, 1)) (hq : own_Out e m K T none) : own_Go p.tables e below K (T.setTop (mkF m pc Ls [])) := by
  obtain ⟨fs, hr, hk⟩ := hq
  exact ⟨_, X.returnOut hx hret hd hr, hk⟩
end OwnRet
theorem own_nar {C : String} {w : Value} (h : w.isRef = true) : narrow (.object C) w = w := by cases w <;> rfl
theorem own_fit {C : String} {w : Value} (h : w.isRef = true) : fits (.object C) w = true := by cases w <;> first | rfl | (simp [Value.isRef] at h)
theorem own_more {p : Program} {l : Launch} {e : Env} {R : Room} {s : State} {m : MethodId} {args : Array Value} {below : List Frame} {meth : Method} {c : Code} {T : State} {locs : List Loc} {k n k' n' : Nat} (X : Stand p l e R s m args below meth c T locs k n) (hk : k ≤ k') (hn : n ≤ n') : Stand p l e R s m args below meth c T locs k' n' := { X with same := X.same.mono hk hn }
/-- a condition as 0 or 1 -/
def own_tern (x : Int32) : Int32 := if x = 0 then 0 else 1
theorem own_t0 {x : Int32} (h : x = 0) : own_tern x = 0 := if_pos h
theorem own_t1 {x : Int32} (h : ¬ x = 0) : own_tern x = 1 := if_neg h
theorem own_t01 (x : Int32) : own_tern x = 0 ∨ own_tern x = 1 := by unfold own_tern; split <;> simp
theorem own_nb {x : Int32} (h : x = 0 ∨ x = 1) : nar .boolean x = x := by rcases h with rfl | rfl <;> rfl
theorem own_b53 (x : Int32) : B53 x.toInt64 := by
  have h1 := x.toInt_lt; have h2 := x.le_toInt
  unfold B53
  rw [Int32.toInt_toInt64]
  omega
theorem own_i64 (x y : Int32) : x.toInt64 < y.toInt64 ↔ x < y := by rw [Int64.lt_iff_toInt_lt, Int32.lt_iff_toInt_lt, Int32.toInt_toInt64, Int32.toInt_toInt64]
theorem own_ni {x y : Int32} (h : ¬ x = y) {n : Int} (e : y.toInt = n) : ¬ x.toInt = n := fun q => h (Int32.toInt_inj.mp (q.trans e.symm))
theorem own_llt {x y : Int64} (h : x < y) : ifCond.holds .lt (lcmpW x y) = true ∧ ifCond.holds .ge (lcmpW x y) = false := by
  have q := tlt (by rw [lcW]; exact (lc_lt x y).mpr h : lcmpW x y < 0)
  exact ⟨(if0 _ _).trans q.1, (if0 _ _).trans q.2.1⟩
theorem own_lge {x y : Int64} (h : ¬ x < y) : ifCond.holds .lt (lcmpW x y) = false ∧ ifCond.holds .ge (lcmpW x y) = true := by
  have q := flt (by rw [lcW]; exact fun z => h ((lc_lt x y).mp z) : ¬ lcmpW x y < 0)
  exact ⟨(if0 _ _).trans q.1, (if0 _ _).trans q.2.1⟩
theorem own_lgt {x y : Int64} (h : y < x) : ifCond.holds .gt (lcmpW x y) = true ∧ ifCond.holds .le (lcmpW x y) = false := by
  have q := tlt (by rw [lcW]; exact (lc_gt x y).mpr h : 0 < lcmpW x y)
  exact ⟨(if0 _ _).trans q.2.2.1, (if0 _ _).trans q.2.2.2⟩
theorem own_lle {x y : Int64} (h : ¬ y < x) : ifCond.holds .gt (lcmpW x y) = false ∧ ifCond.holds .le (lcmpW x y) = true := by
  have q := flt (by rw [lcW]; exact fun z => h ((lc_gt x y).mp z) : ¬ 0 < lcmpW x y)
  exact ⟨(if0 _ _).trans q.2.2.1, (if0 _ _).trans q.2.2.2⟩
theorem own_leq {x y : Int64} (h : x = y) : ifCond.holds .eq (lcmpW x y) = true ∧ ifCond.holds .ne (lcmpW x y) = false := by
  have q := teq (by rw [lcW]; exact (lc_eq x y).mpr h : lcmpW x y = 0)
  exact ⟨(if0 _ _).trans q.1, (if0 _ _).trans q.2⟩
theorem own_lne {x y : Int64} (h : ¬ x = y) : ifCond.holds .eq (lcmpW x y) = false ∧ ifCond.holds .ne (lcmpW x y) = true := by
  have q := feq (by rw [lcW]; exact fun z => h ((lc_eq x y).mp z) : ¬ lcmpW x y = 0)
  exact ⟨(if0 _ _).trans q.1, (if0 _ _).trans q.2⟩
theorem own_eqR {args : Array Value} {s : State} {t u : Term} {a : Addr} (h : (Jvm.Cond.eq t u).value args s none s [] = some true) (hu : u.eval args s none [] s = some (.ref a)) : t.eval args s none [] s = some (.ref a) := by
  obtain ⟨x, y, ex, ey, k1, k2⟩ := cmp_v (Or.inl h)
  obtain rfl : y = .ref a := Option.some.inj (ey.symm.trans hu)
  have hx : x.isRef = true := k2.2
  have e := gotT (eq_R ex ey hx rfl) h
  rw [ex, e]
theorem own_eqI {args : Array Value} {s : State} {t : Term} {n : Int32} (h : (Jvm.Cond.eq t (.int n)).value args s none s [] = some true) : t.eval args s none [] s = some (.int n) := by
  obtain ⟨x, y, ex, ey, k1, k2⟩ := cmp_v (Or.inl h)
  obtain rfl : y = .int n := Option.some.inj (ey.symm.trans (Term.int_eval n))
  obtain ⟨z, rfl⟩ := k2
  have e := gotT (Cond.eq_ints ex (Term.int_eval n)) h
  rw [ex, e]
theorem own_len {args : Array Value} {s : State} {t : Term} {n : Int32} {a : Addr} {cl : Cell} {ty : FieldType} (h : (Jvm.Cond.eq (.length t) (.int n)).value args s none s [] = some true) (ht : t.eval args s none [] s = some (.ref a)) (A : Arr s s.heap a cl ty) : cl.slots.size.toInt32 = n := by
  obtain ⟨a', c', e1, e2, e3⟩ := Term.length_spec (own_eqI h)
  cases ht.symm.trans e1
  cases (Arr.fin (State.Warmed39.refl s).alike A).symm.trans e2
  cases e3
  rfl
theorem own_metW {l : Launch} {y : MethodName} {bytes : ByteArray} {ml : Nat} {ret : Option FieldType} {ws : List Jvm.Cond} {rm : Room} {as' : Array Value} {Z : State} {k n : Nat} {Q : Option Value → Heap → List Loc → Prop} (hp : plainFor y = true)
    (body : ∀ (p : Program) (e : Env) (m : MethodId) (below : List Frame) (meth : Method) (c : Code) (s₁ : State) (K : State → Prop), p.tables.exec = Jvm.exec → c.code = bytes → c.maxLocals = ml → Z.vm.findClass y.cls = some m.cls → meth.name = y.name → meth.sig.returnType = ret →
      Stand p l e rm Z m as' below meth c s₁ [] 0 0 → s₁.heap = Z.heap →
      (∀ (v : Option Value) {T : State} {L : List Loc} {k' n' n1 : Nat} {vm1 : Vm}, Stand p l e rm (Z.setVm vm1) m as' below meth c T L k' n' → Z.Since vm1 n1 → n1 ≤ T.heap.size → (meth.sig.returnType = none → v = none) → Q v T.heap L → k' ≤ k → n' ≤ n → own_Out e m K T v) →
      own_Go p.tables e below K (s₁.setTop (entryFrame m as' ml))) :
    MetFree l y (head1 (Jvm.Cond.code y bytes ml ret :: ws) rm) (fun a U => a = as' ∧ U = Z) (fun _ _ _ _ _ => True) (fun _ U o U' => ∃ v L, o = .returned v ∧ Q v U'.heap L ∧ ReturnedEndW U o U' L k n) := by
  refine MetFree.of_bodySF hp hisR ?_
  intro p e s m args below meth c s₁ Bd hml0 hP hK
  obtain ⟨rfl, rfl⟩ := hP
  have hown : s.vm.findClass y.cls = some m.cls := findClass_of_methodNamed Bd.named
  obtain ⟨t, hs, o, h1, h2, h3⟩ := body p e m below meth c s₁ (fun t => ∃ o, t.status = .running ∧ Ended t below o ∧ ∃ v L, o = .returned v ∧ Q v t.heap L ∧ ReturnedEndW s o t L k n) Bd.exec Bd.bytes hml0 hown (name_of_methodNamed Bd.named Bd.method).1 Bd.returns (Stand.of_body Bd) (by rw [Bd.state]; rfl) (by
    intro v T L k' n' n1 vm1 X hS hn1 hv hq hk hn
    obtain ⟨fs, hr, hrun, hended, hE⟩ := X.leaveW hS hn1 (v := v) hv
    exact ⟨fs, hr, _, hrun, hended, v, L, rfl, hq, hE.1, hE.2.1, hE.2.2.1, hE.2.2.2.mono hk hn⟩)
  exact ⟨t, o, hs, h1, h2, h3⟩
theorem own_rem (q : Int32) : ¬ ((q.toUInt32 >>> ((1 : Int32) &&& 31).toUInt32).toInt32 % (10 : Int32)) < 0 ∧ ((q.toUInt32 >>> ((1 : Int32) &&& 31).toUInt32).toInt32 % (10 : Int32)) < 10 := by
  have e : ((1 : Int32) &&& 31).toUInt32 = (1 : UInt32) := by decide
  rw [e]
  have h1 := q.toUInt32.toNat_lt
  have h2 : (q.toUInt32 >>> (1 : UInt32)).toNat = q.toUInt32.toNat / 2 := by
    rw [UInt32.toNat_shiftRight]; simp [Nat.shiftRight_eq_div_pow]
  have h3 : (q.toUInt32 >>> (1 : UInt32)).toInt32.toInt = (q.toUInt32 >>> (1 : UInt32)).toNat := by
    rw [← Int32.toInt_toBitVec, BitVec.toInt_eq_toNat_cond]
    show (if 2 * (q.toUInt32 >>> (1 : UInt32)).toNat < 2^32 then _ else _) = _
    rw [if_pos (by omega)]
    rfl
  have h4 : 0 ≤ (q.toUInt32 >>> (1 : UInt32)).toInt32.toInt := by rw [h3]; omega
  have h5 : ((q.toUInt32 >>> (1 : UInt32)).toInt32 % (10 : Int32)).toInt = (q.toUInt32 >>> (1 : UInt32)).toInt32.toInt % 10 := by
    rw [Int32.toInt_mod, show (10 : Int32).toInt = 10 from rfl, Int.tmod_eq_emod_of_nonneg h4]
  rw [Int32.lt_iff_toInt_lt, Int32.lt_iff_toInt_lt, h5]
  show ¬ _ % 10 < (0 : Int) ∧ _ % 10 < (10 : Int)
  omega
def own_pick (q : Int32) (a0 a1 a2 a3 a4 a5 a6 a7 a8 a9 : Addr) : Value := if (62 : Int32) = q then .ref a0 else if (43 : Int32) = q then .ref a1 else if (45 : Int32) = q then .ref a2 else if (41 : Int32) = q then .ref a3 else if (40 : Int32) = q then .ref a4 else if (39 : Int32) = q then .ref a5 else if (34 : Int32) = q then .ref a6 else if (63 : Int32) = q then .ref a7 else if (123 : Int32) = q then .ref a8 else if (125 : Int32) = q then .ref a9 else .null
/-- the constants, as the array ALL holds them -/
def own_En (Z : State) (h : Heap) (ar : Addr) (cl : Cell) (a0 a1 a2 a3 a4 a5 a6 a7 a8 a9 : Addr) : Prop := (Sta Z h "com/example/minilingua/minilingua/lang/badkode/Operation" "ALL" "[Lcom/example/minilingua/minilingua/lang/badkode/Operation;" (.ref ar)) ∧ (Arr Z h ar cl (.object "com/example/minilingua/minilingua/lang/badkode/Operation")) ∧ (cl.slots.size.toInt32 = 10) ∧ ((¬ ((0 : Int32) < 0 ∨ cl.slots.size ≤ (0 : Int32).toNatClampNeg)) ∧ cl.slots[(0 : Int32).toNatClampNeg]? = some (.ref a0)) ∧ (Fld Z h a0 "com/example/minilingua/minilingua/lang/badkode/Operation" "symbol" "C" (.int 62)) ∧ ((¬ ((1 : Int32) < 0 ∨ cl.slots.size ≤ (1 : Int32).toNatClampNeg)) ∧ cl.slots[(1 : Int32).toNatClampNeg]? = some (.ref a1)) ∧ (Fld Z h a1 "com/example/minilingua/minilingua/lang/badkode/Operation" "symbol" "C" (.int 43)) ∧ ((¬ ((2 : Int32) < 0 ∨ cl.slots.size ≤ (2 : Int32).toNatClampNeg)) ∧ cl.slots[(2 : Int32).toNatClampNeg]? = some (.ref a2)) ∧ (Fld Z h a2 "com/example/minilingua/minilingua/lang/badkode/Operation" "symbol" "C" (.int 45)) ∧ ((¬ ((3 : Int32) < 0 ∨ cl.slots.size ≤ (3 : Int32).toNatClampNeg)) ∧ cl.slots[(3 : Int32).toNatClampNeg]? = some (.ref a3)) ∧ (Fld Z h a3 "com/example/minilingua/minilingua/lang/badkode/Operation" "symbol" "C" (.int 41)) ∧ ((¬ ((4 : Int32) < 0 ∨ cl.slots.size ≤ (4 : Int32).toNatClampNeg)) ∧ cl.slots[(4 : Int32).toNatClampNeg]? = some (.ref a4)) ∧ (Fld Z h a4 "com/example/minilingua/minilingua/lang/badkode/Operation" "symbol" "C" (.int 40)) ∧ ((¬ ((5 : Int32) < 0 ∨ cl.slots.size ≤ (5 : Int32).toNatClampNeg)) ∧ cl.slots[(5 : Int32).toNatClampNeg]? = some (.ref a5)) ∧ (Fld Z h a5 "com/example/minilingua/minilingua/lang/badkode/Operation" "symbol" "C" (.int 39)) ∧ ((¬ ((6 : Int32) < 0 ∨ cl.slots.size ≤ (6 : Int32).toNatClampNeg)) ∧ cl.slots[(6 : Int32).toNatClampNeg]? = some (.ref a6)) ∧ (Fld Z h a6 "com/example/minilingua/minilingua/lang/badkode/Operation" "symbol" "C" (.int 34)) ∧ ((¬ ((7 : Int32) < 0 ∨ cl.slots.size ≤ (7 : Int32).toNatClampNeg)) ∧ cl.slots[(7 : Int32).toNatClampNeg]? = some (.ref a7)) ∧ (Fld Z h a7 "com/example/minilingua/minilingua/lang/badkode/Operation" "symbol" "C" (.int 63)) ∧ ((¬ ((8 : Int32) < 0 ∨ cl.slots.size ≤ (8 : Int32).toNatClampNeg)) ∧ cl.slots[(8 : Int32).toNatClampNeg]? = some (.ref a8)) ∧ (Fld Z h a8 "com/example/minilingua/minilingua/lang/badkode/Operation" "symbol" "C" (.int 123)) ∧ ((¬ ((9 : Int32) < 0 ∨ cl.slots.size ≤ (9 : Int32).toNatClampNeg)) ∧ cl.slots[(9 : Int32).toNatClampNeg]? = some (.ref a9)) ∧ (Fld Z h a9 "com/example/minilingua/minilingua/lang/badkode/Operation" "symbol" "C" (.int 125))
theorem own_pn1 : plainName "com/example/minilingua/minilingua/lang/badkode/Operation" = true := by first | (simp [plainName, overriddenIn]; done) | decide +kernel
theorem own_d1_0 : decode prog_101_method_4_code 0 = .ok (.getstatic 64, 3) := by decide +kernel
theorem own_d1_3 : decode prog_101_method_4_code 3 = .ok (.astore_n 1, 1) := by decide +kernel
theorem own_d1_4 : decode prog_101_method_4_code 4 = .ok (.aload_n 1, 1) := by decide +kernel
theorem own_d1_5 : decode prog_101_method_4_code 5 = .ok (.arraylength, 1) := by decide +kernel
theorem own_d1_6 : decode prog_101_method_4_code 6 = .ok (.istore_n 2, 1) := by decide +kernel
theorem own_d1_7 : decode prog_101_method_4_code 7 = .ok (.iconst 0, 1) := by decide +kernel
theorem own_d1_8 : decode prog_101_method_4_code 8 = .ok (.istore_n 3, 1) := by decide +kernel
theorem own_d1_9 : decode prog_101_method_4_code 9 = .ok (.iload_n 3, 1) := by decide +kernel
theorem own_d1_10 : decode prog_101_method_4_code 10 = .ok (.iload_n 2, 1) := by decide +kernel
theorem own_d1_11 : decode prog_101_method_4_code 11 = .ok (.if_icmp .ge 26, 3) := by decide +kernel
theorem own_d1_14 : decode prog_101_method_4_code 14 = .ok (.aload_n 1, 1) := by decide +kernel
theorem own_d1_15 : decode prog_101_method_4_code 15 = .ok (.iload_n 3, 1) := by decide +kernel
theorem own_d1_16 : decode prog_101_method_4_code 16 = .ok (.aaload, 1) := by decide +kernel
theorem own_d1_17 : decode prog_101_method_4_code 17 = .ok (.astore 4, 2) := by decide +kernel
theorem own_d1_19 : decode prog_101_method_4_code 19 = .ok (.aload 4, 2) := by decide +kernel
theorem own_d1_21 : decode prog_101_method_4_code 21 = .ok (.getfield 53, 3) := by decide +kernel
theorem own_d1_24 : decode prog_101_method_4_code 24 = .ok (.iload_n 0, 1) := by decide +kernel
theorem own_d1_25 : decode prog_101_method_4_code 25 = .ok (.if_icmp .ne 6, 3) := by decide +kernel
theorem own_d1_28 : decode prog_101_method_4_code 28 = .ok (.aload 4, 2) := by decide +kernel
theorem own_d1_30 : decode prog_101_method_4_code 30 = .ok (.areturn, 1) := by decide +kernel
theorem own_d1_31 : decode prog_101_method_4_code 31 = .ok (.iinc 3 1, 3) := by decide +kernel
theorem own_d1_34 : decode prog_101_method_4_code 34 = .ok (.goto (-25), 3) := by decide +kernel
theorem own_d1_37 : decode prog_101_method_4_code 37 = .ok (.aconst_null, 1) := by decide +kernel
theorem own_d1_38 : decode prog_101_method_4_code 38 = .ok (.areturn, 1) := by decide +kernel
theorem own_efS (m : MethodId) (q1 : Int32) : entryFrame m #[(.int q1)] 5 = mkF m 0 #[.val (.int q1), .unset, .unset, .unset, .unset] [] := by first | (simp [entryFrame, mkF, argsToLocals, Value.category]; done) | rfl
def own_QS (Z : State) (q1 : Int32) (ar : Addr) (cl : Cell) (a0 : Addr) (a1 : Addr) (a2 : Addr) (a3 : Addr) (a4 : Addr) (a5 : Addr) (a6 : Addr) (a7 : Addr) (a8 : Addr) (a9 : Addr) (h0 : Heap) (n0 : Nat) (v : Option Value) (h : Heap) (L : List Loc) : Prop := v = some (own_pick q1 a0 a1 a2 a3 a4 a5 a6 a7 a8 a9) ∧ Fr n0 L ∧ h = h0
set_option maxRecDepth 65536 in
set_option maxHeartbeats 40000000 in
theorem own_rmS (l : Launch) (Z : State) (aw : Array Value) (hw : ∀ d ∈ tables_1, d.before aw Z = true) (ws : List Jvm.Cond) (q1 : Int32) (ar : Addr) (cl : Cell) (a0 : Addr) (a1 : Addr) (a2 : Addr) (a3 : Addr) (a4 : Addr) (a5 : Addr) (a6 : Addr) (a7 : Addr) (a8 : Addr) (a9 : Addr) (h0 : Heap) (n0 : Nat) (Z0 : n0 ≤ h0.size) (hE : own_En Z h0 ar cl a0 a1 a2 a3 a4 a5 a6 a7 a8 a9) :
    MetFree l (⟨"com/example/minilingua/minilingua/lang/badkode/Operation", "spelled", "(C)Lcom/example/minilingua/minilingua/lang/badkode/Operation;"⟩ : MethodName) (head1 (Jvm.Cond.code (⟨"com/example/minilingua/minilingua/lang/badkode/Operation", "spelled", "(C)Lcom/example/minilingua/minilingua/lang/badkode/Operation;"⟩ : MethodName) prog_101_method_4_code 5 (some (.object "com/example/minilingua/minilingua/lang/badkode/Operation")) :: ws) ({ frames := 0, cells := 0, slots := 0, locals := 0 } : Room)) (fun a U => a = #[(.int q1)] ∧ Z.Warmed39 U.vm ∧ U.heap = h0) (fun _ _ _ _ _ => True) (fun _ U o U' => ∃ v L, o = .returned v ∧ own_QS Z q1 ar cl a0 a1 a2 a3 a4 a5 a6 a7 a8 a9 h0 n0 v U'.heap L ∧ FrameEnd U o U' L ({ frames := 0, cells := 0, slots := 0, locals := 0 } : Room).cells ({ frames := 0, cells := 0, slots := 0, locals := 0 } : Room).slots) := by
  refine own_met (Q := own_QS Z q1 ar cl a0 a1 a2 a3 a4 a5 a6 a7 a8 a9 h0 n0) (plainFor_of_name own_pn1) ?_
  intro p e s m below meth c s₁ K hx hby hml hown hnm hret hZ X0 e0 hK
  have hown : s.vm.findClass "com/example/minilingua/minilingua/lang/badkode/Operation" = some m.cls := hown
  have N0 := Fr.nil n0
  refine own_by (fun t k => castTop (own_efS m q1) k) ?_
  obtain ⟨hAll, hAr, hlen, hi0, hF0, hi1, hF1, hi2, hF2, hi3, hF3, hi4, hF4, hi5, hF5, hi6, hF6, hi7, hF7, hi8, hF8, hi9, hF9⟩ := hE
  show own_Go p.tables e below K (s₁.setTop (mkF m 0 #[.val (.int q1), .unset, .unset, .unset, .unset] []))
  obtain ⟨T1, X1, e1, st1⟩ := getS2 X0 hx hZ hown (host := "") (Or.inl (hw _ (List.mem_of_getElem? (i := 4) rfl))) Via.refl e0 hAll (g := (mkF m 0 #[.val (.int q1), .unset, .unset, .unset, .unset] [])) rfl (hb hby own_d1_0)
  refine own_by st1 ?_
  show own_Go p.tables e below K (T1.setTop (mkF m 3 #[.val (.int q1), .unset, .unset, .unset, .unset] [(.ref ar)]))
  refine own_by (fun t k => XS.astoreN X1.here hx rfl (hb hby own_d1_3) rfl rfl (l' := #[.val (.int q1), .val (.ref ar), .unset, .unset, .unset]) rfl k) ?_
  show own_Go p.tables e below K (T1.setTop (mkF m 4 #[.val (.int q1), .val (.ref ar), .unset, .unset, .unset] []))
  refine own_by (fun t k => XS.aloadN X1.here hx rfl (hb hby own_d1_4) rfl rfl k) ?_
  show own_Go p.tables e below K (T1.setTop (mkF m 5 #[.val (.int q1), .val (.ref ar), .unset, .unset, .unset] [(.ref ar)]))
  refine own_by (fun t k => X1.arraylength hx (by rw [e1]; exact hAr.1) (State.isArrayOf_alike hZ.alike hAr.2.1) (g := (mkF m 5 #[.val (.int q1), .val (.ref ar), .unset, .unset, .unset] [(.ref ar)])) rfl rfl (hb hby own_d1_5) t k) ?_
  rw [hlen]
  show own_Go p.tables e below K (T1.setTop (mkF m 6 #[.val (.int q1), .val (.ref ar), .unset, .unset, .unset] [(.int (10 : Int32))]))
  refine own_by (fun t k => XS.istoreN X1.here hx rfl (hb hby own_d1_6) rfl (l' := #[.val (.int q1), .val (.ref ar), .val (.int (10 : Int32)), .unset, .unset]) rfl k) ?_
  show own_Go p.tables e below K (T1.setTop (mkF m 7 #[.val (.int q1), .val (.ref ar), .val (.int (10 : Int32)), .unset, .unset] []))
  refine own_by (fun t k => XS.iconst X1.here hx rfl (hb hby own_d1_7) k) ?_
  show own_Go p.tables e below K (T1.setTop (mkF m 8 #[.val (.int q1), .val (.ref ar), .val (.int (10 : Int32)), .unset, .unset] [(.int (0 : Int32))]))
  refine own_by (fun t k => XS.istoreN X1.here hx rfl (hb hby own_d1_8) rfl (l' := #[.val (.int q1), .val (.ref ar), .val (.int (10 : Int32)), .val (.int (0 : Int32)), .unset]) rfl k) ?_
  show own_Go p.tables e below K (T1.setTop (mkF m 9 #[.val (.int q1), .val (.ref ar), .val (.int (10 : Int32)), .val (.int (0 : Int32)), .unset] []))
  refine own_by (fun t k => XS.iloadN X1.here hx rfl (hb hby own_d1_9) rfl k) ?_
  show own_Go p.tables e below K (T1.setTop (mkF m 10 #[.val (.int q1), .val (.ref ar), .val (.int (10 : Int32)), .val (.int (0 : Int32)), .unset] [(.int (0 : Int32))]))
  refine own_by (fun t k => XS.iloadN X1.here hx rfl (hb hby own_d1_10) rfl k) ?_
  show own_Go p.tables e below K (T1.setTop (mkF m 11 #[.val (.int q1), .val (.ref ar), .val (.int (10 : Int32)), .val (.int (0 : Int32)), .unset] [(.int (10 : Int32)), (.int (0 : Int32))]))
  have hc11 : (0 : Int32) < (10 : Int32) := by decide
  refine own_by (fun t k => XS.icmpNo X1.here hx rfl (hb hby own_d1_11) rfl (tlt hc11).2.1 k) ?_
  show own_Go p.tables e below K (T1.setTop (mkF m 14 #[.val (.int q1), .val (.ref ar), .val (.int (10 : Int32)), .val (.int (0 : Int32)), .unset] []))
  refine own_by (fun t k => XS.aloadN X1.here hx rfl (hb hby own_d1_14) rfl rfl k) ?_
  show own_Go p.tables e below K (T1.setTop (mkF m 15 #[.val (.int q1), .val (.ref ar), .val (.int (10 : Int32)), .val (.int (0 : Int32)), .unset] [(.ref ar)]))
  refine own_by (fun t k => XS.iloadN X1.here hx rfl (hb hby own_d1_15) rfl k) ?_
  show own_Go p.tables e below K (T1.setTop (mkF m 16 #[.val (.int q1), .val (.ref ar), .val (.int (10 : Int32)), .val (.int (0 : Int32)), .unset] [(.int (0 : Int32)), (.ref ar)]))
  refine own_by (fun t k => X1.aaload hx (j := (0 : Int32)) (v := .ref a0) (by rw [e1]; exact hAr.1) (State.isArrayOf_alike hZ.alike hAr.2.1) rfl hAr.2.2 hi0.1 hi0.2 (g := (mkF m 16 #[.val (.int q1), .val (.ref ar), .val (.int (10 : Int32)), .val (.int (0 : Int32)), .unset] [(.int (0 : Int32)), (.ref ar)])) rfl rfl (hb hby own_d1_16) t k) ?_
  show own_Go p.tables e below K (T1.setTop (mkF m 17 #[.val (.int q1), .val (.ref ar), .val (.int (10 : Int32)), .val (.int (0 : Int32)), .unset] [(.ref a0)]))
  refine own_by (fun t k => XS.astore X1.here hx rfl (hb hby own_d1_17) rfl rfl (l' := #[.val (.int q1), .val (.ref ar), .val (.int (10 : Int32)), .val (.int (0 : Int32)), .val (.ref a0)]) rfl k) ?_
  show own_Go p.tables e below K (T1.setTop (mkF m 19 #[.val (.int q1), .val (.ref ar), .val (.int (10 : Int32)), .val (.int (0 : Int32)), .val (.ref a0)] []))
  refine own_by (fun t k => XS.aload X1.here hx rfl (hb hby own_d1_19) rfl rfl k) ?_
  show own_Go p.tables e below K (T1.setTop (mkF m 21 #[.val (.int q1), .val (.ref ar), .val (.int (10 : Int32)), .val (.int (0 : Int32)), .val (.ref a0)] [(.ref a0)]))
  obtain ⟨T2, X2, e2, st2⟩ := getF X1 hx hZ hown (host := "") (Or.inl (hw _ (List.mem_of_getElem? (i := 7) rfl))) Via.refl e1 hF0 (g := (mkF m 21 #[.val (.int q1), .val (.ref ar), .val (.int (10 : Int32)), .val (.int (0 : Int32)), .val (.ref a0)] [(.ref a0)])) rfl rfl (hb hby own_d1_21)
  refine own_by st2 ?_
  show own_Go p.tables e below K (T2.setTop (mkF m 24 #[.val (.int q1), .val (.ref ar), .val (.int (10 : Int32)), .val (.int (0 : Int32)), .val (.ref a0)] [(.int (62 : Int32))]))
  refine own_by (fun t k => XS.iloadN X2.here hx rfl (hb hby own_d1_24) rfl k) ?_
  show own_Go p.tables e below K (T2.setTop (mkF m 25 #[.val (.int q1), .val (.ref ar), .val (.int (10 : Int32)), .val (.int (0 : Int32)), .val (.ref a0)] [(.int q1), (.int (62 : Int32))]))
  by_cases hc25 : (62 : Int32) = q1
  · refine own_by (fun t k => XS.icmpNo X2.here hx rfl (hb hby own_d1_25) rfl (teq hc25).2 k) ?_
    show own_Go p.tables e below K (T2.setTop (mkF m 28 #[.val (.int q1), .val (.ref ar), .val (.int (10 : Int32)), .val (.int (0 : Int32)), .val (.ref a0)] []))
    refine own_by (fun t k => XS.aload X2.here hx rfl (hb hby own_d1_28) rfl rfl k) ?_
    show own_Go p.tables e below K (T2.setTop (mkF m 30 #[.val (.int q1), .val (.ref ar), .val (.int (10 : Int32)), .val (.int (0 : Int32)), .val (.ref a0)] [(.ref a0)]))
    exact own_retA X2 hx hret rfl rfl rfl (hb hby own_d1_30) (hK (some (.ref a0)) X2 (fun h => by rw [hret] at h; cases h) (⟨by simp [own_pick, *], N0, e2⟩) (by decide) (by decide))
  · refine own_by (fun t k => XS.icmpYes X2.here hx rfl (pc0 := 25) (pc' := 31) rfl (hb hby own_d1_25) rfl (feq hc25).2 (by decide) (by decide) k) ?_
    show own_Go p.tables e below K (T2.setTop (mkF m 31 #[.val (.int q1), .val (.ref ar), .val (.int (10 : Int32)), .val (.int (0 : Int32)), .val (.ref a0)] []))
    refine own_by (fun t k => XS.iinc X2.here hx rfl (hb hby own_d1_31) rfl (l' := #[.val (.int q1), .val (.ref ar), .val (.int (10 : Int32)), .val (.int (1 : Int32)), .val (.ref a0)]) rfl k) ?_
    show own_Go p.tables e below K (T2.setTop (mkF m 34 #[.val (.int q1), .val (.ref ar), .val (.int (10 : Int32)), .val (.int (1 : Int32)), .val (.ref a0)] []))
    refine own_by (fun t k => XS.goto X2.here hx rfl (pc0 := 34) (pc' := 9) rfl (hb hby own_d1_34) (by decide) (by decide) k) ?_
    show own_Go p.tables e below K (T2.setTop (mkF m 9 #[.val (.int q1), .val (.ref ar), .val (.int (10 : Int32)), .val (.int (1 : Int32)), .val (.ref a0)] []))
    refine own_by (fun t k => XS.iloadN X2.here hx rfl (hb hby own_d1_9) rfl k) ?_
    show own_Go p.tables e below K (T2.setTop (mkF m 10 #[.val (.int q1), .val (.ref ar), .val (.int (10 : Int32)), .val (.int (1 : Int32)), .val (.ref a0)] [(.int (1 : Int32))]))
    refine own_by (fun t k => XS.iloadN X2.here hx rfl (hb hby own_d1_10) rfl k) ?_
    show own_Go p.tables e below K (T2.setTop (mkF m 11 #[.val (.int q1), .val (.ref ar), .val (.int (10 : Int32)), .val (.int (1 : Int32)), .val (.ref a0)] [(.int (10 : Int32)), (.int (1 : Int32))]))
    have hc11 : (1 : Int32) < (10 : Int32) := by decide
    refine own_by (fun t k => XS.icmpNo X2.here hx rfl (hb hby own_d1_11) rfl (tlt hc11).2.1 k) ?_
    show own_Go p.tables e below K (T2.setTop (mkF m 14 #[.val (.int q1), .val (.ref ar), .val (.int (10 : Int32)), .val (.int (1 : Int32)), .val (.ref a0)] []))
    refine own_by (fun t k => XS.aloadN X2.here hx rfl (hb hby own_d1_14) rfl rfl k) ?_
    show own_Go p.tables e below K (T2.setTop (mkF m 15 #[.val (.int q1), .val (.ref ar), .val (.int (10 : Int32)), .val (.int (1 : Int32)), .val (.ref a0)] [(.ref ar)]))
    refine own_by (fun t k => XS.iloadN X2.here hx rfl (hb hby own_d1_15) rfl k) ?_
    show own_Go p.tables e below K (T2.setTop (mkF m 16 #[.val (.int q1), .val (.ref ar), .val (.int (10 : Int32)), .val (.int (1 : Int32)), .val (.ref a0)] [(.int (1 : Int32)), (.ref ar)]))
    refine own_by (fun t k => X2.aaload hx (j := (1 : Int32)) (v := .ref a1) (by rw [e2]; exact hAr.1) (State.isArrayOf_alike hZ.alike hAr.2.1) rfl hAr.2.2 hi1.1 hi1.2 (g := (mkF m 16 #[.val (.int q1), .val (.ref ar), .val (.int (10 : Int32)), .val (.int (1 : Int32)), .val (.ref a0)] [(.int (1 : Int32)), (.ref ar)])) rfl rfl (hb hby own_d1_16) t k) ?_
    show own_Go p.tables e below K (T2.setTop (mkF m 17 #[.val (.int q1), .val (.ref ar), .val (.int (10 : Int32)), .val (.int (1 : Int32)), .val (.ref a0)] [(.ref a1)]))
    refine own_by (fun t k => XS.astore X2.here hx rfl (hb hby own_d1_17) rfl rfl (l' := #[.val (.int q1), .val (.ref ar), .val (.int (10 : Int32)), .val (.int (1 : Int32)), .val (.ref a1)]) rfl k) ?_
    show own_Go p.tables e below K (T2.setTop (mkF m 19 #[.val (.int q1), .val (.ref ar), .val (.int (10 : Int32)), .val (.int (1 : Int32)), .val (.ref a1)] []))
    refine own_by (fun t k => XS.aload X2.here hx rfl (hb hby own_d1_19) rfl rfl k) ?_
    show own_Go p.tables e below K (T2.setTop (mkF m 21 #[.val (.int q1), .val (.ref ar), .val (.int (10 : Int32)), .val (.int (1 : Int32)), .val (.ref a1)] [(.ref a1)]))
    obtain ⟨T3, X3, e3, st3⟩ := getF X2 hx hZ hown (host := "") (Or.inl (hw _ (List.mem_of_getElem? (i := 7) rfl))) Via.refl e2 hF1 (g := (mkF m 21 #[.val (.int q1), .val (.ref ar), .val (.int (10 : Int32)), .val (.int (1 : Int32)), .val (.ref a1)] [(.ref a1)])) rfl rfl (hb hby own_d1_21)
    refine own_by st3 ?_
    show own_Go p.tables e below K (T3.setTop (mkF m 24 #[.val (.int q1), .val (.ref ar), .val (.int (10 : Int32)), .val (.int (1 : Int32)), .val (.ref a1)] [(.int (43 : Int32))]))
    refine own_by (fun t k => XS.iloadN X3.here hx rfl (hb hby own_d1_24) rfl k) ?_
    show own_Go p.tables e below K (T3.setTop (mkF m 25 #[.val (.int q1), .val (.ref ar), .val (.int (10 : Int32)), .val (.int (1 : Int32)), .val (.ref a1)] [(.int q1), (.int (43 : Int32))]))
    by_cases hc25 : (43 : Int32) = q1
    · refine own_by (fun t k => XS.icmpNo X3.here hx rfl (hb hby own_d1_25) rfl (teq hc25).2 k) ?_
      show own_Go p.tables e below K (T3.setTop (mkF m 28 #[.val (.int q1), .val (.ref ar), .val (.int (10 : Int32)), .val (.int (1 : Int32)), .val (.ref a1)] []))
      refine own_by (fun t k => XS.aload X3.here hx rfl (hb hby own_d1_28) rfl rfl k) ?_
      show own_Go p.tables e below K (T3.setTop (mkF m 30 #[.val (.int q1), .val (.ref ar), .val (.int (10 : Int32)), .val (.int (1 : Int32)), .val (.ref a1)] [(.ref a1)]))
      exact own_retA X3 hx hret rfl rfl rfl (hb hby own_d1_30) (hK (some (.ref a1)) X3 (fun h => by rw [hret] at h; cases h) (⟨by simp [own_pick, *], N0, e3⟩) (by decide) (by decide))
    · refine own_by (fun t k => XS.icmpYes X3.here hx rfl (pc0 := 25) (pc' := 31) rfl (hb hby own_d1_25) rfl (feq hc25).2 (by decide) (by decide) k) ?_
      show own_Go p.tables e below K (T3.setTop (mkF m 31 #[.val (.int q1), .val (.ref ar), .val (.int (10 : Int32)), .val (.int (1 : Int32)), .val (.ref a1)] []))
      refine own_by (fun t k => XS.iinc X3.here hx rfl (hb hby own_d1_31) rfl (l' := #[.val (.int q1), .val (.ref ar), .val (.int (10 : Int32)), .val (.int (2 : Int32)), .val (.ref a1)]) rfl k) ?_
      show own_Go p.tables e below K (T3.setTop (mkF m 34 #[.val (.int q1), .val (.ref ar), .val (.int (10 : Int32)), .val (.int (2 : Int32)), .val (.ref a1)] []))
      refine own_by (fun t k => XS.goto X3.here hx rfl (pc0 := 34) (pc' := 9) rfl (hb hby own_d1_34) (by decide) (by decide) k) ?_
      show own_Go p.tables e below K (T3.setTop (mkF m 9 #[.val (.int q1), .val (.ref ar), .val (.int (10 : Int32)), .val (.int (2 : Int32)), .val (.ref a1)] []))
      refine own_by (fun t k => XS.iloadN X3.here hx rfl (hb hby own_d1_9) rfl k) ?_
      show own_Go p.tables e below K (T3.setTop (mkF m 10 #[.val (.int q1), .val (.ref ar), .val (.int (10 : Int32)), .val (.int (2 : Int32)), .val (.ref a1)] [(.int (2 : Int32))]))
      refine own_by (fun t k => XS.iloadN X3.here hx rfl (hb hby own_d1_10) rfl k) ?_
      show own_Go p.tables e below K (T3.setTop (mkF m 11 #[.val (.int q1), .val (.ref ar), .val (.int (10 : Int32)), .val (.int (2 : Int32)), .val (.ref a1)] [(.int (10 : Int32)), (.int (2 : Int32))]))
      have hc11 : (2 : Int32) < (10 : Int32) := by decide
      refine own_by (fun t k => XS.icmpNo X3.here hx rfl (hb hby own_d1_11) rfl (tlt hc11).2.1 k) ?_
      show own_Go p.tables e below K (T3.setTop (mkF m 14 #[.val (.int q1), .val (.ref ar), .val (.int (10 : Int32)), .val (.int (2 : Int32)), .val (.ref a1)] []))
      refine own_by (fun t k => XS.aloadN X3.here hx rfl (hb hby own_d1_14) rfl rfl k) ?_
      show own_Go p.tables e below K (T3.setTop (mkF m 15 #[.val (.int q1), .val (.ref ar), .val (.int (10 : Int32)), .val (.int (2 : Int32)), .val (.ref a1)] [(.ref ar)]))
      refine own_by (fun t k => XS.iloadN X3.here hx rfl (hb hby own_d1_15) rfl k) ?_
      show own_Go p.tables e below K (T3.setTop (mkF m 16 #[.val (.int q1), .val (.ref ar), .val (.int (10 : Int32)), .val (.int (2 : Int32)), .val (.ref a1)] [(.int (2 : Int32)), (.ref ar)]))
      refine own_by (fun t k => X3.aaload hx (j := (2 : Int32)) (v := .ref a2) (by rw [e3]; exact hAr.1) (State.isArrayOf_alike hZ.alike hAr.2.1) rfl hAr.2.2 hi2.1 hi2.2 (g := (mkF m 16 #[.val (.int q1), .val (.ref ar), .val (.int (10 : Int32)), .val (.int (2 : Int32)), .val (.ref a1)] [(.int (2 : Int32)), (.ref ar)])) rfl rfl (hb hby own_d1_16) t k) ?_
      show own_Go p.tables e below K (T3.setTop (mkF m 17 #[.val (.int q1), .val (.ref ar), .val (.int (10 : Int32)), .val (.int (2 : Int32)), .val (.ref a1)] [(.ref a2)]))
      refine own_by (fun t k => XS.astore X3.here hx rfl (hb hby own_d1_17) rfl rfl (l' := #[.val (.int q1), .val (.ref ar), .val (.int (10 : Int32)), .val (.int (2 : Int32)), .val (.ref a2)]) rfl k) ?_
      show own_Go p.tables e below K (T3.setTop (mkF m 19 #[.val (.int q1), .val (.ref ar), .val (.int (10 : Int32)), .val (.int (2 : Int32)), .val (.ref a2)] []))
      refine own_by (fun t k => XS.aload X3.here hx rfl (hb hby own_d1_19) rfl rfl k) ?_
      show own_Go p.tables e below K (T3.setTop (mkF m 21 #[.val (.int q1), .val (.ref ar), .val (.int (10 : Int32)), .val (.int (2 : Int32)), .val (.ref a2)] [(.ref a2)]))
      obtain ⟨T4, X4, e4, st4⟩ := getF X3 hx hZ hown (host := "") (Or.inl (hw _ (List.mem_of_getElem? (i := 7) rfl))) Via.refl e3 hF2 (g := (mkF m 21 #[.val (.int q1), .val (.ref ar), .val (.int (10 : Int32)), .val (.int (2 : Int32)), .val (.ref a2)] [(.ref a2)])) rfl rfl (hb hby own_d1_21)
      refine own_by st4 ?_
      show own_Go p.tables e below K (T4.setTop (mkF m 24 #[.val (.int q1), .val (.ref ar), .val (.int (10 : Int32)), .val (.int (2 : Int32)), .val (.ref a2)] [(.int (45 : Int32))]))
      refine own_by (fun t k => XS.iloadN X4.here hx rfl (hb hby own_d1_24) rfl k) ?_
      show own_Go p.tables e below K (T4.setTop (mkF m 25 #[.val (.int q1), .val (.ref ar), .val (.int (10 : Int32)), .val (.int (2 : Int32)), .val (.ref a2)] [(.int q1), (.int (45 : Int32))]))
      by_cases hc25 : (45 : Int32) = q1
      · refine own_by (fun t k => XS.icmpNo X4.here hx rfl (hb hby own_d1_25) rfl (teq hc25).2 k) ?_
        show own_Go p.tables e below K (T4.setTop (mkF m 28 #[.val (.int q1), .val (.ref ar), .val (.int (10 : Int32)), .val (.int (2 : Int32)), .val (.ref a2)] []))
        refine own_by (fun t k => XS.aload X4.here hx rfl (hb hby own_d1_28) rfl rfl k) ?_
        show own_Go p.tables e below K (T4.setTop (mkF m 30 #[.val (.int q1), .val (.ref ar), .val (.int (10 : Int32)), .val (.int (2 : Int32)), .val (.ref a2)] [(.ref a2)]))
        exact own_retA X4 hx hret rfl rfl rfl (hb hby own_d1_30) (hK (some (.ref a2)) X4 (fun h => by rw [hret] at h; cases h) (⟨by simp [own_pick, *], N0, e4⟩) (by decide) (by decide))
      · refine own_by (fun t k => XS.icmpYes X4.here hx rfl (pc0 := 25) (pc' := 31) rfl (hb hby own_d1_25) rfl (feq hc25).2 (by decide) (by decide) k) ?_
        show own_Go p.tables e below K (T4.setTop (mkF m 31 #[.val (.int q1), .val (.ref ar), .val (.int (10 : Int32)), .val (.int (2 : Int32)), .val (.ref a2)] []))
        refine own_by (fun t k => XS.iinc X4.here hx rfl (hb hby own_d1_31) rfl (l' := #[.val (.int q1), .val (.ref ar), .val (.int (10 : Int32)), .val (.int (3 : Int32)), .val (.ref a2)]) rfl k) ?_
        show own_Go p.tables e below K (T4.setTop (mkF m 34 #[.val (.int q1), .val (.ref ar), .val (.int (10 : Int32)), .val (.int (3 : Int32)), .val (.ref a2)] []))
        refine own_by (fun t k => XS.goto X4.here hx rfl (pc0 := 34) (pc' := 9) rfl (hb hby own_d1_34) (by decide) (by decide) k) ?_
        show own_Go p.tables e below K (T4.setTop (mkF m 9 #[.val (.int q1), .val (.ref ar), .val (.int (10 : Int32)), .val (.int (3 : Int32)), .val (.ref a2)] []))
        refine own_by (fun t k => XS.iloadN X4.here hx rfl (hb hby own_d1_9) rfl k) ?_
        show own_Go p.tables e below K (T4.setTop (mkF m 10 #[.val (.int q1), .val (.ref ar), .val (.int (10 : Int32)), .val (.int (3 : Int32)), .val (.ref a2)] [(.int (3 : Int32))]))
        refine own_by (fun t k => XS.iloadN X4.here hx rfl (hb hby own_d1_10) rfl k) ?_
        show own_Go p.tables e below K (T4.setTop (mkF m 11 #[.val (.int q1), .val (.ref ar), .val (.int (10 : Int32)), .val (.int (3 : Int32)), .val (.ref a2)] [(.int (10 : Int32)), (.int (3 : Int32))]))
        have hc11 : (3 : Int32) < (10 : Int32) := by decide
        refine own_by (fun t k => XS.icmpNo X4.here hx rfl (hb hby own_d1_11) rfl (tlt hc11).2.1 k) ?_
        show own_Go p.tables e below K (T4.setTop (mkF m 14 #[.val (.int q1), .val (.ref ar), .val (.int (10 : Int32)), .val (.int (3 : Int32)), .val (.ref a2)] []))
        refine own_by (fun t k => XS.aloadN X4.here hx rfl (hb hby own_d1_14) rfl rfl k) ?_
        show own_Go p.tables e below K (T4.setTop (mkF m 15 #[.val (.int q1), .val (.ref ar), .val (.int (10 : Int32)), .val (.int (3 : Int32)), .val (.ref a2)] [(.ref ar)]))
        refine own_by (fun t k => XS.iloadN X4.here hx rfl (hb hby own_d1_15) rfl k) ?_
        show own_Go p.tables e below K (T4.setTop (mkF m 16 #[.val (.int q1), .val (.ref ar), .val (.int (10 : Int32)), .val (.int (3 : Int32)), .val (.ref a2)] [(.int (3 : Int32)), (.ref ar)]))
        refine own_by (fun t k => X4.aaload hx (j := (3 : Int32)) (v := .ref a3) (by rw [e4]; exact hAr.1) (State.isArrayOf_alike hZ.alike hAr.2.1) rfl hAr.2.2 hi3.1 hi3.2 (g := (mkF m 16 #[.val (.int q1), .val (.ref ar), .val (.int (10 : Int32)), .val (.int (3 : Int32)), .val (.ref a2)] [(.int (3 : Int32)), (.ref ar)])) rfl rfl (hb hby own_d1_16) t k) ?_
        show own_Go p.tables e below K (T4.setTop (mkF m 17 #[.val (.int q1), .val (.ref ar), .val (.int (10 : Int32)), .val (.int (3 : Int32)), .val (.ref a2)] [(.ref a3)]))
        refine own_by (fun t k => XS.astore X4.here hx rfl (hb hby own_d1_17) rfl rfl (l' := #[.val (.int q1), .val (.ref ar), .val (.int (10 : Int32)), .val (.int (3 : Int32)), .val (.ref a3)]) rfl k) ?_
        show own_Go p.tables e below K (T4.setTop (mkF m 19 #[.val (.int q1), .val (.ref ar), .val (.int (10 : Int32)), .val (.int (3 : Int32)), .val (.ref a3)] []))
        refine own_by (fun t k => XS.aload X4.here hx rfl (hb hby own_d1_19) rfl rfl k) ?_
        show own_Go p.tables e below K (T4.setTop (mkF m 21 #[.val (.int q1), .val (.ref ar), .val (.int (10 : Int32)), .val (.int (3 : Int32)), .val (.ref a3)] [(.ref a3)]))
        obtain ⟨T5, X5, e5, st5⟩ := getF X4 hx hZ hown (host := "") (Or.inl (hw _ (List.mem_of_getElem? (i := 7) rfl))) Via.refl e4 hF3 (g := (mkF m 21 #[.val (.int q1), .val (.ref ar), .val (.int (10 : Int32)), .val (.int (3 : Int32)), .val (.ref a3)] [(.ref a3)])) rfl rfl (hb hby own_d1_21)
        refine own_by st5 ?_
        show own_Go p.tables e below K (T5.setTop (mkF m 24 #[.val (.int q1), .val (.ref ar), .val (.int (10 : Int32)), .val (.int (3 : Int32)), .val (.ref a3)] [(.int (41 : Int32))]))
        refine own_by (fun t k => XS.iloadN X5.here hx rfl (hb hby own_d1_24) rfl k) ?_
        show own_Go p.tables e below K (T5.setTop (mkF m 25 #[.val (.int q1), .val (.ref ar), .val (.int (10 : Int32)), .val (.int (3 : Int32)), .val (.ref a3)] [(.int q1), (.int (41 : Int32))]))
        by_cases hc25 : (41 : Int32) = q1
        · refine own_by (fun t k => XS.icmpNo X5.here hx rfl (hb hby own_d1_25) rfl (teq hc25).2 k) ?_
          show own_Go p.tables e below K (T5.setTop (mkF m 28 #[.val (.int q1), .val (.ref ar), .val (.int (10 : Int32)), .val (.int (3 : Int32)), .val (.ref a3)] []))
          refine own_by (fun t k => XS.aload X5.here hx rfl (hb hby own_d1_28) rfl rfl k) ?_
          show own_Go p.tables e below K (T5.setTop (mkF m 30 #[.val (.int q1), .val (.ref ar), .val (.int (10 : Int32)), .val (.int (3 : Int32)), .val (.ref a3)] [(.ref a3)]))
          exact own_retA X5 hx hret rfl rfl rfl (hb hby own_d1_30) (hK (some (.ref a3)) X5 (fun h => by rw [hret] at h; cases h) (⟨by simp [own_pick, *], N0, e5⟩) (by decide) (by decide))
        · refine own_by (fun t k => XS.icmpYes X5.here hx rfl (pc0 := 25) (pc' := 31) rfl (hb hby own_d1_25) rfl (feq hc25).2 (by decide) (by decide) k) ?_
          show own_Go p.tables e below K (T5.setTop (mkF m 31 #[.val (.int q1), .val (.ref ar), .val (.int (10 : Int32)), .val (.int (3 : Int32)), .val (.ref a3)] []))
          refine own_by (fun t k => XS.iinc X5.here hx rfl (hb hby own_d1_31) rfl (l' := #[.val (.int q1), .val (.ref ar), .val (.int (10 : Int32)), .val (.int (4 : Int32)), .val (.ref a3)]) rfl k) ?_
          show own_Go p.tables e below K (T5.setTop (mkF m 34 #[.val (.int q1), .val (.ref ar), .val (.int (10 : Int32)), .val (.int (4 : Int32)), .val (.ref a3)] []))
          refine own_by (fun t k => XS.goto X5.here hx rfl (pc0 := 34) (pc' := 9) rfl (hb hby own_d1_34) (by decide) (by decide) k) ?_
          show own_Go p.tables e below K (T5.setTop (mkF m 9 #[.val (.int q1), .val (.ref ar), .val (.int (10 : Int32)), .val (.int (4 : Int32)), .val (.ref a3)] []))
          refine own_by (fun t k => XS.iloadN X5.here hx rfl (hb hby own_d1_9) rfl k) ?_
          show own_Go p.tables e below K (T5.setTop (mkF m 10 #[.val (.int q1), .val (.ref ar), .val (.int (10 : Int32)), .val (.int (4 : Int32)), .val (.ref a3)] [(.int (4 : Int32))]))
          refine own_by (fun t k => XS.iloadN X5.here hx rfl (hb hby own_d1_10) rfl k) ?_
          show own_Go p.tables e below K (T5.setTop (mkF m 11 #[.val (.int q1), .val (.ref ar), .val (.int (10 : Int32)), .val (.int (4 : Int32)), .val (.ref a3)] [(.int (10 : Int32)), (.int (4 : Int32))]))
          have hc11 : (4 : Int32) < (10 : Int32) := by decide
          refine own_by (fun t k => XS.icmpNo X5.here hx rfl (hb hby own_d1_11) rfl (tlt hc11).2.1 k) ?_
          show own_Go p.tables e below K (T5.setTop (mkF m 14 #[.val (.int q1), .val (.ref ar), .val (.int (10 : Int32)), .val (.int (4 : Int32)), .val (.ref a3)] []))
          refine own_by (fun t k => XS.aloadN X5.here hx rfl (hb hby own_d1_14) rfl rfl k) ?_
          show own_Go p.tables e below K (T5.setTop (mkF m 15 #[.val (.int q1), .val (.ref ar), .val (.int (10 : Int32)), .val (.int (4 : Int32)), .val (.ref a3)] [(.ref ar)]))
          refine own_by (fun t k => XS.iloadN X5.here hx rfl (hb hby own_d1_15) rfl k) ?_
          show own_Go p.tables e below K (T5.setTop (mkF m 16 #[.val (.int q1), .val (.ref ar), .val (.int (10 : Int32)), .val (.int (4 : Int32)), .val (.ref a3)] [(.int (4 : Int32)), (.ref ar)]))
          refine own_by (fun t k => X5.aaload hx (j := (4 : Int32)) (v := .ref a4) (by rw [e5]; exact hAr.1) (State.isArrayOf_alike hZ.alike hAr.2.1) rfl hAr.2.2 hi4.1 hi4.2 (g := (mkF m 16 #[.val (.int q1), .val (.ref ar), .val (.int (10 : Int32)), .val (.int (4 : Int32)), .val (.ref a3)] [(.int (4 : Int32)), (.ref ar)])) rfl rfl (hb hby own_d1_16) t k) ?_
          show own_Go p.tables e below K (T5.setTop (mkF m 17 #[.val (.int q1), .val (.ref ar), .val (.int (10 : Int32)), .val (.int (4 : Int32)), .val (.ref a3)] [(.ref a4)]))
          refine own_by (fun t k => XS.astore X5.here hx rfl (hb hby own_d1_17) rfl rfl (l' := #[.val (.int q1), .val (.ref ar), .val (.int (10 : Int32)), .val (.int (4 : Int32)), .val (.ref a4)]) rfl k) ?_
          show own_Go p.tables e below K (T5.setTop (mkF m 19 #[.val (.int q1), .val (.ref ar), .val (.int (10 : Int32)), .val (.int (4 : Int32)), .val (.ref a4)] []))
          refine own_by (fun t k => XS.aload X5.here hx rfl (hb hby own_d1_19) rfl rfl k) ?_
          show own_Go p.tables e below K (T5.setTop (mkF m 21 #[.val (.int q1), .val (.ref ar), .val (.int (10 : Int32)), .val (.int (4 : Int32)), .val (.ref a4)] [(.ref a4)]))
          obtain ⟨T6, X6, e6, st6⟩ := getF X5 hx hZ hown (host := "") (Or.inl (hw _ (List.mem_of_getElem? (i := 7) rfl))) Via.refl e5 hF4 (g := (mkF m 21 #[.val (.int q1), .val (.ref ar), .val (.int (10 : Int32)), .val (.int (4 : Int32)), .val (.ref a4)] [(.ref a4)])) rfl rfl (hb hby own_d1_21)
          refine own_by st6 ?_
          show own_Go p.tables e below K (T6.setTop (mkF m 24 #[.val (.int q1), .val (.ref ar), .val (.int (10 : Int32)), .val (.int (4 : Int32)), .val (.ref a4)] [(.int (40 : Int32))]))
          refine own_by (fun t k => XS.iloadN X6.here hx rfl (hb hby own_d1_24) rfl k) ?_
          show own_Go p.tables e below K (T6.setTop (mkF m 25 #[.val (.int q1), .val (.ref ar), .val (.int (10 : Int32)), .val (.int (4 : Int32)), .val (.ref a4)] [(.int q1), (.int (40 : Int32))]))
          by_cases hc25 : (40 : Int32) = q1
          · refine own_by (fun t k => XS.icmpNo X6.here hx rfl (hb hby own_d1_25) rfl (teq hc25).2 k) ?_
            show own_Go p.tables e below K (T6.setTop (mkF m 28 #[.val (.int q1), .val (.ref ar), .val (.int (10 : Int32)), .val (.int (4 : Int32)), .val (.ref a4)] []))
            refine own_by (fun t k => XS.aload X6.here hx rfl (hb hby own_d1_28) rfl rfl k) ?_
            show own_Go p.tables e below K (T6.setTop (mkF m 30 #[.val (.int q1), .val (.ref ar), .val (.int (10 : Int32)), .val (.int (4 : Int32)), .val (.ref a4)] [(.ref a4)]))
            exact own_retA X6 hx hret rfl rfl rfl (hb hby own_d1_30) (hK (some (.ref a4)) X6 (fun h => by rw [hret] at h; cases h) (⟨by simp [own_pick, *], N0, e6⟩) (by decide) (by decide))
          · refine own_by (fun t k => XS.icmpYes X6.here hx rfl (pc0 := 25) (pc' := 31) rfl (hb hby own_d1_25) rfl (feq hc25).2 (by decide) (by decide) k) ?_
            show own_Go p.tables e below K (T6.setTop (mkF m 31 #[.val (.int q1), .val (.ref ar), .val (.int (10 : Int32)), .val (.int (4 : Int32)), .val (.ref a4)] []))
            refine own_by (fun t k => XS.iinc X6.here hx rfl (hb hby own_d1_31) rfl (l' := #[.val (.int q1), .val (.ref ar), .val (.int (10 : Int32)), .val (.int (5 : Int32)), .val (.ref a4)]) rfl k) ?_
            show own_Go p.tables e below K (T6.setTop (mkF m 34 #[.val (.int q1), .val (.ref ar), .val (.int (10 : Int32)), .val (.int (5 : Int32)), .val (.ref a4)] []))
            refine own_by (fun t k => XS.goto X6.here hx rfl (pc0 := 34) (pc' := 9) rfl (hb hby own_d1_34) (by decide) (by decide) k) ?_
            show own_Go p.tables e below K (T6.setTop (mkF m 9 #[.val (.int q1), .val (.ref ar), .val (.int (10 : Int32)), .val (.int (5 : Int32)), .val (.ref a4)] []))
            refine own_by (fun t k => XS.iloadN X6.here hx rfl (hb hby own_d1_9) rfl k) ?_
            show own_Go p.tables e below K (T6.setTop (mkF m 10 #[.val (.int q1), .val (.ref ar), .val (.int (10 : Int32)), .val (.int (5 : Int32)), .val (.ref a4)] [(.int (5 : Int32))]))
            refine own_by (fun t k => XS.iloadN X6.here hx rfl (hb hby own_d1_10) rfl k) ?_
            show own_Go p.tables e below K (T6.setTop (mkF m 11 #[.val (.int q1), .val (.ref ar), .val (.int (10 : Int32)), .val (.int (5 : Int32)), .val (.ref a4)] [(.int (10 : Int32)), (.int (5 : Int32))]))
            have hc11 : (5 : Int32) < (10 : Int32) := by decide
            refine own_by (fun t k => XS.icmpNo X6.here hx rfl (hb hby own_d1_11) rfl (tlt hc11).2.1 k) ?_
            show own_Go p.tables e below K (T6.setTop (mkF m 14 #[.val (.int q1), .val (.ref ar), .val (.int (10 : Int32)), .val (.int (5 : Int32)), .val (.ref a4)] []))
            refine own_by (fun t k => XS.aloadN X6.here hx rfl (hb hby own_d1_14) rfl rfl k) ?_
            show own_Go p.tables e below K (T6.setTop (mkF m 15 #[.val (.int q1), .val (.ref ar), .val (.int (10 : Int32)), .val (.int (5 : Int32)), .val (.ref a4)] [(.ref ar)]))
            refine own_by (fun t k => XS.iloadN X6.here hx rfl (hb hby own_d1_15) rfl k) ?_
            show own_Go p.tables e below K (T6.setTop (mkF m 16 #[.val (.int q1), .val (.ref ar), .val (.int (10 : Int32)), .val (.int (5 : Int32)), .val (.ref a4)] [(.int (5 : Int32)), (.ref ar)]))
            refine own_by (fun t k => X6.aaload hx (j := (5 : Int32)) (v := .ref a5) (by rw [e6]; exact hAr.1) (State.isArrayOf_alike hZ.alike hAr.2.1) rfl hAr.2.2 hi5.1 hi5.2 (g := (mkF m 16 #[.val (.int q1), .val (.ref ar), .val (.int (10 : Int32)), .val (.int (5 : Int32)), .val (.ref a4)] [(.int (5 : Int32)), (.ref ar)])) rfl rfl (hb hby own_d1_16) t k) ?_
            show own_Go p.tables e below K (T6.setTop (mkF m 17 #[.val (.int q1), .val (.ref ar), .val (.int (10 : Int32)), .val (.int (5 : Int32)), .val (.ref a4)] [(.ref a5)]))
            refine own_by (fun t k => XS.astore X6.here hx rfl (hb hby own_d1_17) rfl rfl (l' := #[.val (.int q1), .val (.ref ar), .val (.int (10 : Int32)), .val (.int (5 : Int32)), .val (.ref a5)]) rfl k) ?_
            show own_Go p.tables e below K (T6.setTop (mkF m 19 #[.val (.int q1), .val (.ref ar), .val (.int (10 : Int32)), .val (.int (5 : Int32)), .val (.ref a5)] []))
            refine own_by (fun t k => XS.aload X6.here hx rfl (hb hby own_d1_19) rfl rfl k) ?_
            show own_Go p.tables e below K (T6.setTop (mkF m 21 #[.val (.int q1), .val (.ref ar), .val (.int (10 : Int32)), .val (.int (5 : Int32)), .val (.ref a5)] [(.ref a5)]))
            obtain ⟨T7, X7, e7, st7⟩ := getF X6 hx hZ hown (host := "") (Or.inl (hw _ (List.mem_of_getElem? (i := 7) rfl))) Via.refl e6 hF5 (g := (mkF m 21 #[.val (.int q1), .val (.ref ar), .val (.int (10 : Int32)), .val (.int (5 : Int32)), .val (.ref a5)] [(.ref a5)])) rfl rfl (hb hby own_d1_21)
            refine own_by st7 ?_
            show own_Go p.tables e below K (T7.setTop (mkF m 24 #[.val (.int q1), .val (.ref ar), .val (.int (10 : Int32)), .val (.int (5 : Int32)), .val (.ref a5)] [(.int (39 : Int32))]))
            refine own_by (fun t k => XS.iloadN X7.here hx rfl (hb hby own_d1_24) rfl k) ?_
            show own_Go p.tables e below K (T7.setTop (mkF m 25 #[.val (.int q1), .val (.ref ar), .val (.int (10 : Int32)), .val (.int (5 : Int32)), .val (.ref a5)] [(.int q1), (.int (39 : Int32))]))
            by_cases hc25 : (39 : Int32) = q1
            · refine own_by (fun t k => XS.icmpNo X7.here hx rfl (hb hby own_d1_25) rfl (teq hc25).2 k) ?_
              show own_Go p.tables e below K (T7.setTop (mkF m 28 #[.val (.int q1), .val (.ref ar), .val (.int (10 : Int32)), .val (.int (5 : Int32)), .val (.ref a5)] []))
              refine own_by (fun t k => XS.aload X7.here hx rfl (hb hby own_d1_28) rfl rfl k) ?_
              show own_Go p.tables e below K (T7.setTop (mkF m 30 #[.val (.int q1), .val (.ref ar), .val (.int (10 : Int32)), .val (.int (5 : Int32)), .val (.ref a5)] [(.ref a5)]))
              exact own_retA X7 hx hret rfl rfl rfl (hb hby own_d1_30) (hK (some (.ref a5)) X7 (fun h => by rw [hret] at h; cases h) (⟨by simp [own_pick, *], N0, e7⟩) (by decide) (by decide))
            · refine own_by (fun t k => XS.icmpYes X7.here hx rfl (pc0 := 25) (pc' := 31) rfl (hb hby own_d1_25) rfl (feq hc25).2 (by decide) (by decide) k) ?_
              show own_Go p.tables e below K (T7.setTop (mkF m 31 #[.val (.int q1), .val (.ref ar), .val (.int (10 : Int32)), .val (.int (5 : Int32)), .val (.ref a5)] []))
              refine own_by (fun t k => XS.iinc X7.here hx rfl (hb hby own_d1_31) rfl (l' := #[.val (.int q1), .val (.ref ar), .val (.int (10 : Int32)), .val (.int (6 : Int32)), .val (.ref a5)]) rfl k) ?_
              show own_Go p.tables e below K (T7.setTop (mkF m 34 #[.val (.int q1), .val (.ref ar), .val (.int (10 : Int32)), .val (.int (6 : Int32)), .val (.ref a5)] []))
              refine own_by (fun t k => XS.goto X7.here hx rfl (pc0 := 34) (pc' := 9) rfl (hb hby own_d1_34) (by decide) (by decide) k) ?_
              show own_Go p.tables e below K (T7.setTop (mkF m 9 #[.val (.int q1), .val (.ref ar), .val (.int (10 : Int32)), .val (.int (6 : Int32)), .val (.ref a5)] []))
              refine own_by (fun t k => XS.iloadN X7.here hx rfl (hb hby own_d1_9) rfl k) ?_
              show own_Go p.tables e below K (T7.setTop (mkF m 10 #[.val (.int q1), .val (.ref ar), .val (.int (10 : Int32)), .val (.int (6 : Int32)), .val (.ref a5)] [(.int (6 : Int32))]))
              refine own_by (fun t k => XS.iloadN X7.here hx rfl (hb hby own_d1_10) rfl k) ?_
              show own_Go p.tables e below K (T7.setTop (mkF m 11 #[.val (.int q1), .val (.ref ar), .val (.int (10 : Int32)), .val (.int (6 : Int32)), .val (.ref a5)] [(.int (10 : Int32)), (.int (6 : Int32))]))
              have hc11 : (6 : Int32) < (10 : Int32) := by decide
              refine own_by (fun t k => XS.icmpNo X7.here hx rfl (hb hby own_d1_11) rfl (tlt hc11).2.1 k) ?_
              show own_Go p.tables e below K (T7.setTop (mkF m 14 #[.val (.int q1), .val (.ref ar), .val (.int (10 : Int32)), .val (.int (6 : Int32)), .val (.ref a5)] []))
              refine own_by (fun t k => XS.aloadN X7.here hx rfl (hb hby own_d1_14) rfl rfl k) ?_
              show own_Go p.tables e below K (T7.setTop (mkF m 15 #[.val (.int q1), .val (.ref ar), .val (.int (10 : Int32)), .val (.int (6 : Int32)), .val (.ref a5)] [(.ref ar)]))
              refine own_by (fun t k => XS.iloadN X7.here hx rfl (hb hby own_d1_15) rfl k) ?_
              show own_Go p.tables e below K (T7.setTop (mkF m 16 #[.val (.int q1), .val (.ref ar), .val (.int (10 : Int32)), .val (.int (6 : Int32)), .val (.ref a5)] [(.int (6 : Int32)), (.ref ar)]))
              refine own_by (fun t k => X7.aaload hx (j := (6 : Int32)) (v := .ref a6) (by rw [e7]; exact hAr.1) (State.isArrayOf_alike hZ.alike hAr.2.1) rfl hAr.2.2 hi6.1 hi6.2 (g := (mkF m 16 #[.val (.int q1), .val (.ref ar), .val (.int (10 : Int32)), .val (.int (6 : Int32)), .val (.ref a5)] [(.int (6 : Int32)), (.ref ar)])) rfl rfl (hb hby own_d1_16) t k) ?_
              show own_Go p.tables e below K (T7.setTop (mkF m 17 #[.val (.int q1), .val (.ref ar), .val (.int (10 : Int32)), .val (.int (6 : Int32)), .val (.ref a5)] [(.ref a6)]))
              refine own_by (fun t k => XS.astore X7.here hx rfl (hb hby own_d1_17) rfl rfl (l' := #[.val (.int q1), .val (.ref ar), .val (.int (10 : Int32)), .val (.int (6 : Int32)), .val (.ref a6)]) rfl k) ?_
              show own_Go p.tables e below K (T7.setTop (mkF m 19 #[.val (.int q1), .val (.ref ar), .val (.int (10 : Int32)), .val (.int (6 : Int32)), .val (.ref a6)] []))
              refine own_by (fun t k => XS.aload X7.here hx rfl (hb hby own_d1_19) rfl rfl k) ?_
              show own_Go p.tables e below K (T7.setTop (mkF m 21 #[.val (.int q1), .val (.ref ar), .val (.int (10 : Int32)), .val (.int (6 : Int32)), .val (.ref a6)] [(.ref a6)]))
              obtain ⟨T8, X8, e8, st8⟩ := getF X7 hx hZ hown (host := "") (Or.inl (hw _ (List.mem_of_getElem? (i := 7) rfl))) Via.refl e7 hF6 (g := (mkF m 21 #[.val (.int q1), .val (.ref ar), .val (.int (10 : Int32)), .val (.int (6 : Int32)), .val (.ref a6)] [(.ref a6)])) rfl rfl (hb hby own_d1_21)
              refine own_by st8 ?_
              show own_Go p.tables e below K (T8.setTop (mkF m 24 #[.val (.int q1), .val (.ref ar), .val (.int (10 : Int32)), .val (.int (6 : Int32)), .val (.ref a6)] [(.int (34 : Int32))]))
              refine own_by (fun t k => XS.iloadN X8.here hx rfl (hb hby own_d1_24) rfl k) ?_
              show own_Go p.tables e below K (T8.setTop (mkF m 25 #[.val (.int q1), .val (.ref ar), .val (.int (10 : Int32)), .val (.int (6 : Int32)), .val (.ref a6)] [(.int q1), (.int (34 : Int32))]))
              by_cases hc25 : (34 : Int32) = q1
              · refine own_by (fun t k => XS.icmpNo X8.here hx rfl (hb hby own_d1_25) rfl (teq hc25).2 k) ?_
                show own_Go p.tables e below K (T8.setTop (mkF m 28 #[.val (.int q1), .val (.ref ar), .val (.int (10 : Int32)), .val (.int (6 : Int32)), .val (.ref a6)] []))
                refine own_by (fun t k => XS.aload X8.here hx rfl (hb hby own_d1_28) rfl rfl k) ?_
                show own_Go p.tables e below K (T8.setTop (mkF m 30 #[.val (.int q1), .val (.ref ar), .val (.int (10 : Int32)), .val (.int (6 : Int32)), .val (.ref a6)] [(.ref a6)]))
                exact own_retA X8 hx hret rfl rfl rfl (hb hby own_d1_30) (hK (some (.ref a6)) X8 (fun h => by rw [hret] at h; cases h) (⟨by simp [own_pick, *], N0, e8⟩) (by decide) (by decide))
              · refine own_by (fun t k => XS.icmpYes X8.here hx rfl (pc0 := 25) (pc' := 31) rfl (hb hby own_d1_25) rfl (feq hc25).2 (by decide) (by decide) k) ?_
                show own_Go p.tables e below K (T8.setTop (mkF m 31 #[.val (.int q1), .val (.ref ar), .val (.int (10 : Int32)), .val (.int (6 : Int32)), .val (.ref a6)] []))
                refine own_by (fun t k => XS.iinc X8.here hx rfl (hb hby own_d1_31) rfl (l' := #[.val (.int q1), .val (.ref ar), .val (.int (10 : Int32)), .val (.int (7 : Int32)), .val (.ref a6)]) rfl k) ?_
                show own_Go p.tables e below K (T8.setTop (mkF m 34 #[.val (.int q1), .val (.ref ar), .val (.int (10 : Int32)), .val (.int (7 : Int32)), .val (.ref a6)] []))
                refine own_by (fun t k => XS.goto X8.here hx rfl (pc0 := 34) (pc' := 9) rfl (hb hby own_d1_34) (by decide) (by decide) k) ?_
                show own_Go p.tables e below K (T8.setTop (mkF m 9 #[.val (.int q1), .val (.ref ar), .val (.int (10 : Int32)), .val (.int (7 : Int32)), .val (.ref a6)] []))
                refine own_by (fun t k => XS.iloadN X8.here hx rfl (hb hby own_d1_9) rfl k) ?_
                show own_Go p.tables e below K (T8.setTop (mkF m 10 #[.val (.int q1), .val (.ref ar), .val (.int (10 : Int32)), .val (.int (7 : Int32)), .val (.ref a6)] [(.int (7 : Int32))]))
                refine own_by (fun t k => XS.iloadN X8.here hx rfl (hb hby own_d1_10) rfl k) ?_
                show own_Go p.tables e below K (T8.setTop (mkF m 11 #[.val (.int q1), .val (.ref ar), .val (.int (10 : Int32)), .val (.int (7 : Int32)), .val (.ref a6)] [(.int (10 : Int32)), (.int (7 : Int32))]))
                have hc11 : (7 : Int32) < (10 : Int32) := by decide
                refine own_by (fun t k => XS.icmpNo X8.here hx rfl (hb hby own_d1_11) rfl (tlt hc11).2.1 k) ?_
                show own_Go p.tables e below K (T8.setTop (mkF m 14 #[.val (.int q1), .val (.ref ar), .val (.int (10 : Int32)), .val (.int (7 : Int32)), .val (.ref a6)] []))
                refine own_by (fun t k => XS.aloadN X8.here hx rfl (hb hby own_d1_14) rfl rfl k) ?_
                show own_Go p.tables e below K (T8.setTop (mkF m 15 #[.val (.int q1), .val (.ref ar), .val (.int (10 : Int32)), .val (.int (7 : Int32)), .val (.ref a6)] [(.ref ar)]))
                refine own_by (fun t k => XS.iloadN X8.here hx rfl (hb hby own_d1_15) rfl k) ?_
                show own_Go p.tables e below K (T8.setTop (mkF m 16 #[.val (.int q1), .val (.ref ar), .val (.int (10 : Int32)), .val (.int (7 : Int32)), .val (.ref a6)] [(.int (7 : Int32)), (.ref ar)]))
                refine own_by (fun t k => X8.aaload hx (j := (7 : Int32)) (v := .ref a7) (by rw [e8]; exact hAr.1) (State.isArrayOf_alike hZ.alike hAr.2.1) rfl hAr.2.2 hi7.1 hi7.2 (g := (mkF m 16 #[.val (.int q1), .val (.ref ar), .val (.int (10 : Int32)), .val (.int (7 : Int32)), .val (.ref a6)] [(.int (7 : Int32)), (.ref ar)])) rfl rfl (hb hby own_d1_16) t k) ?_
                show own_Go p.tables e below K (T8.setTop (mkF m 17 #[.val (.int q1), .val (.ref ar), .val (.int (10 : Int32)), .val (.int (7 : Int32)), .val (.ref a6)] [(.ref a7)]))
                refine own_by (fun t k => XS.astore X8.here hx rfl (hb hby own_d1_17) rfl rfl (l' := #[.val (.int q1), .val (.ref ar), .val (.int (10 : Int32)), .val (.int (7 : Int32)), .val (.ref a7)]) rfl k) ?_
                show own_Go p.tables e below K (T8.setTop (mkF m 19 #[.val (.int q1), .val (.ref ar), .val (.int (10 : Int32)), .val (.int (7 : Int32)), .val (.ref a7)] []))
                refine own_by (fun t k => XS.aload X8.here hx rfl (hb hby own_d1_19) rfl rfl k) ?_
                show own_Go p.tables e below K (T8.setTop (mkF m 21 #[.val (.int q1), .val (.ref ar), .val (.int (10 : Int32)), .val (.int (7 : Int32)), .val (.ref a7)] [(.ref a7)]))
                obtain ⟨T9, X9, e9, st9⟩ := getF X8 hx hZ hown (host := "") (Or.inl (hw _ (List.mem_of_getElem? (i := 7) rfl))) Via.refl e8 hF7 (g := (mkF m 21 #[.val (.int q1), .val (.ref ar), .val (.int (10 : Int32)), .val (.int (7 : Int32)), .val (.ref a7)] [(.ref a7)])) rfl rfl (hb hby own_d1_21)
                refine own_by st9 ?_
                show own_Go p.tables e below K (T9.setTop (mkF m 24 #[.val (.int q1), .val (.ref ar), .val (.int (10 : Int32)), .val (.int (7 : Int32)), .val (.ref a7)] [(.int (63 : Int32))]))
                refine own_by (fun t k => XS.iloadN X9.here hx rfl (hb hby own_d1_24) rfl k) ?_
                show own_Go p.tables e below K (T9.setTop (mkF m 25 #[.val (.int q1), .val (.ref ar), .val (.int (10 : Int32)), .val (.int (7 : Int32)), .val (.ref a7)] [(.int q1), (.int (63 : Int32))]))
                by_cases hc25 : (63 : Int32) = q1
                · refine own_by (fun t k => XS.icmpNo X9.here hx rfl (hb hby own_d1_25) rfl (teq hc25).2 k) ?_
                  show own_Go p.tables e below K (T9.setTop (mkF m 28 #[.val (.int q1), .val (.ref ar), .val (.int (10 : Int32)), .val (.int (7 : Int32)), .val (.ref a7)] []))
                  refine own_by (fun t k => XS.aload X9.here hx rfl (hb hby own_d1_28) rfl rfl k) ?_
                  show own_Go p.tables e below K (T9.setTop (mkF m 30 #[.val (.int q1), .val (.ref ar), .val (.int (10 : Int32)), .val (.int (7 : Int32)), .val (.ref a7)] [(.ref a7)]))
                  exact own_retA X9 hx hret rfl rfl rfl (hb hby own_d1_30) (hK (some (.ref a7)) X9 (fun h => by rw [hret] at h; cases h) (⟨by simp [own_pick, *], N0, e9⟩) (by decide) (by decide))
                · refine own_by (fun t k => XS.icmpYes X9.here hx rfl (pc0 := 25) (pc' := 31) rfl (hb hby own_d1_25) rfl (feq hc25).2 (by decide) (by decide) k) ?_
                  show own_Go p.tables e below K (T9.setTop (mkF m 31 #[.val (.int q1), .val (.ref ar), .val (.int (10 : Int32)), .val (.int (7 : Int32)), .val (.ref a7)] []))
                  refine own_by (fun t k => XS.iinc X9.here hx rfl (hb hby own_d1_31) rfl (l' := #[.val (.int q1), .val (.ref ar), .val (.int (10 : Int32)), .val (.int (8 : Int32)), .val (.ref a7)]) rfl k) ?_
                  show own_Go p.tables e below K (T9.setTop (mkF m 34 #[.val (.int q1), .val (.ref ar), .val (.int (10 : Int32)), .val (.int (8 : Int32)), .val (.ref a7)] []))
                  refine own_by (fun t k => XS.goto X9.here hx rfl (pc0 := 34) (pc' := 9) rfl (hb hby own_d1_34) (by decide) (by decide) k) ?_
                  show own_Go p.tables e below K (T9.setTop (mkF m 9 #[.val (.int q1), .val (.ref ar), .val (.int (10 : Int32)), .val (.int (8 : Int32)), .val (.ref a7)] []))
                  refine own_by (fun t k => XS.iloadN X9.here hx rfl (hb hby own_d1_9) rfl k) ?_
                  show own_Go p.tables e below K (T9.setTop (mkF m 10 #[.val (.int q1), .val (.ref ar), .val (.int (10 : Int32)), .val (.int (8 : Int32)), .val (.ref a7)] [(.int (8 : Int32))]))
                  refine own_by (fun t k => XS.iloadN X9.here hx rfl (hb hby own_d1_10) rfl k) ?_
                  show own_Go p.tables e below K (T9.setTop (mkF m 11 #[.val (.int q1), .val (.ref ar), .val (.int (10 : Int32)), .val (.int (8 : Int32)), .val (.ref a7)] [(.int (10 : Int32)), (.int (8 : Int32))]))
                  have hc11 : (8 : Int32) < (10 : Int32) := by decide
                  refine own_by (fun t k => XS.icmpNo X9.here hx rfl (hb hby own_d1_11) rfl (tlt hc11).2.1 k) ?_
                  show own_Go p.tables e below K (T9.setTop (mkF m 14 #[.val (.int q1), .val (.ref ar), .val (.int (10 : Int32)), .val (.int (8 : Int32)), .val (.ref a7)] []))
                  refine own_by (fun t k => XS.aloadN X9.here hx rfl (hb hby own_d1_14) rfl rfl k) ?_
                  show own_Go p.tables e below K (T9.setTop (mkF m 15 #[.val (.int q1), .val (.ref ar), .val (.int (10 : Int32)), .val (.int (8 : Int32)), .val (.ref a7)] [(.ref ar)]))
                  refine own_by (fun t k => XS.iloadN X9.here hx rfl (hb hby own_d1_15) rfl k) ?_
                  show own_Go p.tables e below K (T9.setTop (mkF m 16 #[.val (.int q1), .val (.ref ar), .val (.int (10 : Int32)), .val (.int (8 : Int32)), .val (.ref a7)] [(.int (8 : Int32)), (.ref ar)]))
                  refine own_by (fun t k => X9.aaload hx (j := (8 : Int32)) (v := .ref a8) (by rw [e9]; exact hAr.1) (State.isArrayOf_alike hZ.alike hAr.2.1) rfl hAr.2.2 hi8.1 hi8.2 (g := (mkF m 16 #[.val (.int q1), .val (.ref ar), .val (.int (10 : Int32)), .val (.int (8 : Int32)), .val (.ref a7)] [(.int (8 : Int32)), (.ref ar)])) rfl rfl (hb hby own_d1_16) t k) ?_
                  show own_Go p.tables e below K (T9.setTop (mkF m 17 #[.val (.int q1), .val (.ref ar), .val (.int (10 : Int32)), .val (.int (8 : Int32)), .val (.ref a7)] [(.ref a8)]))
                  refine own_by (fun t k => XS.astore X9.here hx rfl (hb hby own_d1_17) rfl rfl (l' := #[.val (.int q1), .val (.ref ar), .val (.int (10 : Int32)), .val (.int (8 : Int32)), .val (.ref a8)]) rfl k) ?_
                  show own_Go p.tables e below K (T9.setTop (mkF m 19 #[.val (.int q1), .val (.ref ar), .val (.int (10 : Int32)), .val (.int (8 : Int32)), .val (.ref a8)] []))
                  refine own_by (fun t k => XS.aload X9.here hx rfl (hb hby own_d1_19) rfl rfl k) ?_
                  show own_Go p.tables e below K (T9.setTop (mkF m 21 #[.val (.int q1), .val (.ref ar), .val (.int (10 : Int32)), .val (.int (8 : Int32)), .val (.ref a8)] [(.ref a8)]))
                  obtain ⟨T10, X10, e10, st10⟩ := getF X9 hx hZ hown (host := "") (Or.inl (hw _ (List.mem_of_getElem? (i := 7) rfl))) Via.refl e9 hF8 (g := (mkF m 21 #[.val (.int q1), .val (.ref ar), .val (.int (10 : Int32)), .val (.int (8 : Int32)), .val (.ref a8)] [(.ref a8)])) rfl rfl (hb hby own_d1_21)
                  refine own_by st10 ?_
                  show own_Go p.tables e below K (T10.setTop (mkF m 24 #[.val (.int q1), .val (.ref ar), .val (.int (10 : Int32)), .val (.int (8 : Int32)), .val (.ref a8)] [(.int (123 : Int32))]))
                  refine own_by (fun t k => XS.iloadN X10.here hx rfl (hb hby own_d1_24) rfl k) ?_
                  show own_Go p.tables e below K (T10.setTop (mkF m 25 #[.val (.int q1), .val (.ref ar), .val (.int (10 : Int32)), .val (.int (8 : Int32)), .val (.ref a8)] [(.int q1), (.int (123 : Int32))]))
                  by_cases hc25 : (123 : Int32) = q1
                  · refine own_by (fun t k => XS.icmpNo X10.here hx rfl (hb hby own_d1_25) rfl (teq hc25).2 k) ?_
                    show own_Go p.tables e below K (T10.setTop (mkF m 28 #[.val (.int q1), .val (.ref ar), .val (.int (10 : Int32)), .val (.int (8 : Int32)), .val (.ref a8)] []))
                    refine own_by (fun t k => XS.aload X10.here hx rfl (hb hby own_d1_28) rfl rfl k) ?_
                    show own_Go p.tables e below K (T10.setTop (mkF m 30 #[.val (.int q1), .val (.ref ar), .val (.int (10 : Int32)), .val (.int (8 : Int32)), .val (.ref a8)] [(.ref a8)]))
                    exact own_retA X10 hx hret rfl rfl rfl (hb hby own_d1_30) (hK (some (.ref a8)) X10 (fun h => by rw [hret] at h; cases h) (⟨by simp [own_pick, *], N0, e10⟩) (by decide) (by decide))
                  · refine own_by (fun t k => XS.icmpYes X10.here hx rfl (pc0 := 25) (pc' := 31) rfl (hb hby own_d1_25) rfl (feq hc25).2 (by decide) (by decide) k) ?_
                    show own_Go p.tables e below K (T10.setTop (mkF m 31 #[.val (.int q1), .val (.ref ar), .val (.int (10 : Int32)), .val (.int (8 : Int32)), .val (.ref a8)] []))
                    refine own_by (fun t k => XS.iinc X10.here hx rfl (hb hby own_d1_31) rfl (l' := #[.val (.int q1), .val (.ref ar), .val (.int (10 : Int32)), .val (.int (9 : Int32)), .val (.ref a8)]) rfl k) ?_
                    show own_Go p.tables e below K (T10.setTop (mkF m 34 #[.val (.int q1), .val (.ref ar), .val (.int (10 : Int32)), .val (.int (9 : Int32)), .val (.ref a8)] []))
                    refine own_by (fun t k => XS.goto X10.here hx rfl (pc0 := 34) (pc' := 9) rfl (hb hby own_d1_34) (by decide) (by decide) k) ?_
                    show own_Go p.tables e below K (T10.setTop (mkF m 9 #[.val (.int q1), .val (.ref ar), .val (.int (10 : Int32)), .val (.int (9 : Int32)), .val (.ref a8)] []))
                    refine own_by (fun t k => XS.iloadN X10.here hx rfl (hb hby own_d1_9) rfl k) ?_
                    show own_Go p.tables e below K (T10.setTop (mkF m 10 #[.val (.int q1), .val (.ref ar), .val (.int (10 : Int32)), .val (.int (9 : Int32)), .val (.ref a8)] [(.int (9 : Int32))]))
                    refine own_by (fun t k => XS.iloadN X10.here hx rfl (hb hby own_d1_10) rfl k) ?_
                    show own_Go p.tables e below K (T10.setTop (mkF m 11 #[.val (.int q1), .val (.ref ar), .val (.int (10 : Int32)), .val (.int (9 : Int32)), .val (.ref a8)] [(.int (10 : Int32)), (.int (9 : Int32))]))
                    have hc11 : (9 : Int32) < (10 : Int32) := by decide
                    refine own_by (fun t k => XS.icmpNo X10.here hx rfl (hb hby own_d1_11) rfl (tlt hc11).2.1 k) ?_
                    show own_Go p.tables e below K (T10.setTop (mkF m 14 #[.val (.int q1), .val (.ref ar), .val (.int (10 : Int32)), .val (.int (9 : Int32)), .val (.ref a8)] []))
                    refine own_by (fun t k => XS.aloadN X10.here hx rfl (hb hby own_d1_14) rfl rfl k) ?_
                    show own_Go p.tables e below K (T10.setTop (mkF m 15 #[.val (.int q1), .val (.ref ar), .val (.int (10 : Int32)), .val (.int (9 : Int32)), .val (.ref a8)] [(.ref ar)]))
                    refine own_by (fun t k => XS.iloadN X10.here hx rfl (hb hby own_d1_15) rfl k) ?_
                    show own_Go p.tables e below K (T10.setTop (mkF m 16 #[.val (.int q1), .val (.ref ar), .val (.int (10 : Int32)), .val (.int (9 : Int32)), .val (.ref a8)] [(.int (9 : Int32)), (.ref ar)]))
                    refine own_by (fun t k => X10.aaload hx (j := (9 : Int32)) (v := .ref a9) (by rw [e10]; exact hAr.1) (State.isArrayOf_alike hZ.alike hAr.2.1) rfl hAr.2.2 hi9.1 hi9.2 (g := (mkF m 16 #[.val (.int q1), .val (.ref ar), .val (.int (10 : Int32)), .val (.int (9 : Int32)), .val (.ref a8)] [(.int (9 : Int32)), (.ref ar)])) rfl rfl (hb hby own_d1_16) t k) ?_
                    show own_Go p.tables e below K (T10.setTop (mkF m 17 #[.val (.int q1), .val (.ref ar), .val (.int (10 : Int32)), .val (.int (9 : Int32)), .val (.ref a8)] [(.ref a9)]))
                    refine own_by (fun t k => XS.astore X10.here hx rfl (hb hby own_d1_17) rfl rfl (l' := #[.val (.int q1), .val (.ref ar), .val (.int (10 : Int32)), .val (.int (9 : Int32)), .val (.ref a9)]) rfl k) ?_
                    show own_Go p.tables e below K (T10.setTop (mkF m 19 #[.val (.int q1), .val (.ref ar), .val (.int (10 : Int32)), .val (.int (9 : Int32)), .val (.ref a9)] []))
                    refine own_by (fun t k => XS.aload X10.here hx rfl (hb hby own_d1_19) rfl rfl k) ?_
                    show own_Go p.tables e below K (T10.setTop (mkF m 21 #[.val (.int q1), .val (.ref ar), .val (.int (10 : Int32)), .val (.int (9 : Int32)), .val (.ref a9)] [(.ref a9)]))
                    obtain ⟨T11, X11, e11, st11⟩ := getF X10 hx hZ hown (host := "") (Or.inl (hw _ (List.mem_of_getElem? (i := 7) rfl))) Via.refl e10 hF9 (g := (mkF m 21 #[.val (.int q1), .val (.ref ar), .val (.int (10 : Int32)), .val (.int (9 : Int32)), .val (.ref a9)] [(.ref a9)])) rfl rfl (hb hby own_d1_21)
                    refine own_by st11 ?_
                    show own_Go p.tables e below K (T11.setTop (mkF m 24 #[.val (.int q1), .val (.ref ar), .val (.int (10 : Int32)), .val (.int (9 : Int32)), .val (.ref a9)] [(.int (125 : Int32))]))
                    refine own_by (fun t k => XS.iloadN X11.here hx rfl (hb hby own_d1_24) rfl k) ?_
                    show own_Go p.tables e below K (T11.setTop (mkF m 25 #[.val (.int q1), .val (.ref ar), .val (.int (10 : Int32)), .val (.int (9 : Int32)), .val (.ref a9)] [(.int q1), (.int (125 : Int32))]))
                    by_cases hc25 : (125 : Int32) = q1
                    · refine own_by (fun t k => XS.icmpNo X11.here hx rfl (hb hby own_d1_25) rfl (teq hc25).2 k) ?_
                      show own_Go p.tables e below K (T11.setTop (mkF m 28 #[.val (.int q1), .val (.ref ar), .val (.int (10 : Int32)), .val (.int (9 : Int32)), .val (.ref a9)] []))
                      refine own_by (fun t k => XS.aload X11.here hx rfl (hb hby own_d1_28) rfl rfl k) ?_
                      show own_Go p.tables e below K (T11.setTop (mkF m 30 #[.val (.int q1), .val (.ref ar), .val (.int (10 : Int32)), .val (.int (9 : Int32)), .val (.ref a9)] [(.ref a9)]))
                      exact own_retA X11 hx hret rfl rfl rfl (hb hby own_d1_30) (hK (some (.ref a9)) X11 (fun h => by rw [hret] at h; cases h) (⟨by simp [own_pick, *], N0, e11⟩) (by decide) (by decide))
                    · refine own_by (fun t k => XS.icmpYes X11.here hx rfl (pc0 := 25) (pc' := 31) rfl (hb hby own_d1_25) rfl (feq hc25).2 (by decide) (by decide) k) ?_
                      show own_Go p.tables e below K (T11.setTop (mkF m 31 #[.val (.int q1), .val (.ref ar), .val (.int (10 : Int32)), .val (.int (9 : Int32)), .val (.ref a9)] []))
                      refine own_by (fun t k => XS.iinc X11.here hx rfl (hb hby own_d1_31) rfl (l' := #[.val (.int q1), .val (.ref ar), .val (.int (10 : Int32)), .val (.int (10 : Int32)), .val (.ref a9)]) rfl k) ?_
                      show own_Go p.tables e below K (T11.setTop (mkF m 34 #[.val (.int q1), .val (.ref ar), .val (.int (10 : Int32)), .val (.int (10 : Int32)), .val (.ref a9)] []))
                      refine own_by (fun t k => XS.goto X11.here hx rfl (pc0 := 34) (pc' := 9) rfl (hb hby own_d1_34) (by decide) (by decide) k) ?_
                      show own_Go p.tables e below K (T11.setTop (mkF m 9 #[.val (.int q1), .val (.ref ar), .val (.int (10 : Int32)), .val (.int (10 : Int32)), .val (.ref a9)] []))
                      refine own_by (fun t k => XS.iloadN X11.here hx rfl (hb hby own_d1_9) rfl k) ?_
                      show own_Go p.tables e below K (T11.setTop (mkF m 10 #[.val (.int q1), .val (.ref ar), .val (.int (10 : Int32)), .val (.int (10 : Int32)), .val (.ref a9)] [(.int (10 : Int32))]))
                      refine own_by (fun t k => XS.iloadN X11.here hx rfl (hb hby own_d1_10) rfl k) ?_
                      show own_Go p.tables e below K (T11.setTop (mkF m 11 #[.val (.int q1), .val (.ref ar), .val (.int (10 : Int32)), .val (.int (10 : Int32)), .val (.ref a9)] [(.int (10 : Int32)), (.int (10 : Int32))]))
                      have hc11 : ¬ ((10 : Int32) < (10 : Int32)) := by decide
                      refine own_by (fun t k => XS.icmpYes X11.here hx rfl (pc0 := 11) (pc' := 37) rfl (hb hby own_d1_11) rfl (flt hc11).2.1 (by decide) (by decide) k) ?_
                      show own_Go p.tables e below K (T11.setTop (mkF m 37 #[.val (.int q1), .val (.ref ar), .val (.int (10 : Int32)), .val (.int (10 : Int32)), .val (.ref a9)] []))
                      refine own_by (fun t k => XS.aconstNull X11.here hx rfl (hb hby own_d1_37) k) ?_
                      show own_Go p.tables e below K (T11.setTop (mkF m 38 #[.val (.int q1), .val (.ref ar), .val (.int (10 : Int32)), .val (.int (10 : Int32)), .val (.ref a9)] [.null]))
                      exact own_retA X11 hx hret rfl rfl rfl (hb hby own_d1_38) (hK (some .null) X11 (fun h => by rw [hret] at h; cases h) (⟨by simp [own_pick, *], N0, e11⟩) (by decide) (by decide))
theorem own_pn2 : plainName "com/example/minilingua/minilingua/lang/badkode/OperationSpelledPinLaw" = true := by first | (simp [plainName, overriddenIn]; done) | decide +kernel
theorem own_d2_0 : decode method_2_code 0 = .ok (.iload_n 0, 1) := by decide +kernel
theorem own_d2_1 : decode method_2_code 1 = .ok (.bipush 62, 2) := by decide +kernel
theorem own_d2_3 : decode method_2_code 3 = .ok (.if_icmp .ne 7, 3) := by decide +kernel
theorem own_d2_6 : decode method_2_code 6 = .ok (.getstatic 7, 3) := by decide +kernel
theorem own_d2_9 : decode method_2_code 9 = .ok (.areturn, 1) := by decide +kernel
theorem own_d2_10 : decode method_2_code 10 = .ok (.iload_n 0, 1) := by decide +kernel
theorem own_d2_11 : decode method_2_code 11 = .ok (.bipush 43, 2) := by decide +kernel
theorem own_d2_13 : decode method_2_code 13 = .ok (.if_icmp .ne 7, 3) := by decide +kernel
theorem own_d2_16 : decode method_2_code 16 = .ok (.getstatic 13, 3) := by decide +kernel
theorem own_d2_19 : decode method_2_code 19 = .ok (.areturn, 1) := by decide +kernel
theorem own_d2_20 : decode method_2_code 20 = .ok (.iload_n 0, 1) := by decide +kernel
theorem own_d2_21 : decode method_2_code 21 = .ok (.bipush 45, 2) := by decide +kernel
theorem own_d2_23 : decode method_2_code 23 = .ok (.if_icmp .ne 7, 3) := by decide +kernel
theorem own_d2_26 : decode method_2_code 26 = .ok (.getstatic 16, 3) := by decide +kernel
theorem own_d2_29 : decode method_2_code 29 = .ok (.areturn, 1) := by decide +kernel
theorem own_d2_30 : decode method_2_code 30 = .ok (.iload_n 0, 1) := by decide +kernel
theorem own_d2_31 : decode method_2_code 31 = .ok (.bipush 41, 2) := by decide +kernel
theorem own_d2_33 : decode method_2_code 33 = .ok (.if_icmp .ne 7, 3) := by decide +kernel
theorem own_d2_36 : decode method_2_code 36 = .ok (.getstatic 19, 3) := by decide +kernel
theorem own_d2_39 : decode method_2_code 39 = .ok (.areturn, 1) := by decide +kernel
theorem own_d2_40 : decode method_2_code 40 = .ok (.iload_n 0, 1) := by decide +kernel
theorem own_d2_41 : decode method_2_code 41 = .ok (.bipush 40, 2) := by decide +kernel
theorem own_d2_43 : decode method_2_code 43 = .ok (.if_icmp .ne 7, 3) := by decide +kernel
theorem own_d2_46 : decode method_2_code 46 = .ok (.getstatic 22, 3) := by decide +kernel
theorem own_d2_49 : decode method_2_code 49 = .ok (.areturn, 1) := by decide +kernel
theorem own_d2_50 : decode method_2_code 50 = .ok (.iload_n 0, 1) := by decide +kernel
theorem own_d2_51 : decode method_2_code 51 = .ok (.bipush 39, 2) := by decide +kernel
theorem own_d2_53 : decode method_2_code 53 = .ok (.if_icmp .ne 7, 3) := by decide +kernel
theorem own_d2_56 : decode method_2_code 56 = .ok (.getstatic 25, 3) := by decide +kernel
theorem own_d2_59 : decode method_2_code 59 = .ok (.areturn, 1) := by decide +kernel
theorem own_d2_60 : decode method_2_code 60 = .ok (.iload_n 0, 1) := by decide +kernel
theorem own_d2_61 : decode method_2_code 61 = .ok (.bipush 34, 2) := by decide +kernel
theorem own_d2_63 : decode method_2_code 63 = .ok (.if_icmp .ne 7, 3) := by decide +kernel
theorem own_d2_66 : decode method_2_code 66 = .ok (.getstatic 28, 3) := by decide +kernel
theorem own_d2_69 : decode method_2_code 69 = .ok (.areturn, 1) := by decide +kernel
theorem own_d2_70 : decode method_2_code 70 = .ok (.iload_n 0, 1) := by decide +kernel
theorem own_d2_71 : decode method_2_code 71 = .ok (.bipush 63, 2) := by decide +kernel
theorem own_d2_73 : decode method_2_code 73 = .ok (.if_icmp .ne 7, 3) := by decide +kernel
theorem own_d2_76 : decode method_2_code 76 = .ok (.getstatic 31, 3) := by decide +kernel
theorem own_d2_79 : decode method_2_code 79 = .ok (.areturn, 1) := by decide +kernel
theorem own_d2_80 : decode method_2_code 80 = .ok (.iload_n 0, 1) := by decide +kernel
theorem own_d2_81 : decode method_2_code 81 = .ok (.bipush 123, 2) := by decide +kernel
theorem own_d2_83 : decode method_2_code 83 = .ok (.if_icmp .ne 7, 3) := by decide +kernel
theorem own_d2_86 : decode method_2_code 86 = .ok (.getstatic 34, 3) := by decide +kernel
theorem own_d2_89 : decode method_2_code 89 = .ok (.areturn, 1) := by decide +kernel
theorem own_d2_90 : decode method_2_code 90 = .ok (.iload_n 0, 1) := by decide +kernel
theorem own_d2_91 : decode method_2_code 91 = .ok (.bipush 125, 2) := by decide +kernel
theorem own_d2_93 : decode method_2_code 93 = .ok (.if_icmp .ne 7, 3) := by decide +kernel
theorem own_d2_96 : decode method_2_code 96 = .ok (.getstatic 37, 3) := by decide +kernel
theorem own_d2_99 : decode method_2_code 99 = .ok (.areturn, 1) := by decide +kernel
theorem own_d2_100 : decode method_2_code 100 = .ok (.aconst_null, 1) := by decide +kernel
theorem own_d2_101 : decode method_2_code 101 = .ok (.areturn, 1) := by decide +kernel
theorem own_efX (m : MethodId) (q1 : Int32) : entryFrame m #[(.int q1)] 1 = mkF m 0 #[.val (.int q1)] [] := by first | (simp [entryFrame, mkF, argsToLocals, Value.category]; done) | rfl
def own_QX (Z : State) (q1 : Int32) (a0 : Addr) (a1 : Addr) (a2 : Addr) (a3 : Addr) (a4 : Addr) (a5 : Addr) (a6 : Addr) (a7 : Addr) (a8 : Addr) (a9 : Addr) (h0 : Heap) (n0 : Nat) (v : Option Value) (h : Heap) (L : List Loc) : Prop := v = some (own_pick q1 a0 a1 a2 a3 a4 a5 a6 a7 a8 a9) ∧ Fr n0 L ∧ h = h0
set_option maxRecDepth 65536 in
set_option maxHeartbeats 40000000 in
theorem own_rmX (l : Launch) (Z : State) (aw : Array Value) (hw : ∀ d ∈ tables_1, d.before aw Z = true) (ws : List Jvm.Cond) (q1 : Int32) (a0 : Addr) (a1 : Addr) (a2 : Addr) (a3 : Addr) (a4 : Addr) (a5 : Addr) (a6 : Addr) (a7 : Addr) (a8 : Addr) (a9 : Addr) (h0 : Heap) (n0 : Nat) (Z0 : n0 ≤ h0.size) (S0 : Sta Z h0 "com/example/minilingua/minilingua/lang/badkode/Operation" "MOVE" "Lcom/example/minilingua/minilingua/lang/badkode/Operation;" (.ref a0)) (S1 : Sta Z h0 "com/example/minilingua/minilingua/lang/badkode/Operation" "ADD" "Lcom/example/minilingua/minilingua/lang/badkode/Operation;" (.ref a1)) (S2 : Sta Z h0 "com/example/minilingua/minilingua/lang/badkode/Operation" "SUBTRACT" "Lcom/example/minilingua/minilingua/lang/badkode/Operation;" (.ref a2)) (S3 : Sta Z h0 "com/example/minilingua/minilingua/lang/badkode/Operation" "PUSH" "Lcom/example/minilingua/minilingua/lang/badkode/Operation;" (.ref a3)) (S4 : Sta Z h0 "com/example/minilingua/minilingua/lang/badkode/Operation" "PULL" "Lcom/example/minilingua/minilingua/lang/badkode/Operation;" (.ref a4)) (S5 : Sta Z h0 "com/example/minilingua/minilingua/lang/badkode/Operation" "WRITE_NUMBER" "Lcom/example/minilingua/minilingua/lang/badkode/Operation;" (.ref a5)) (S6 : Sta Z h0 "com/example/minilingua/minilingua/lang/badkode/Operation" "WRITE_BYTE" "Lcom/example/minilingua/minilingua/lang/badkode/Operation;" (.ref a6)) (S7 : Sta Z h0 "com/example/minilingua/minilingua/lang/badkode/Operation" "READ" "Lcom/example/minilingua/minilingua/lang/badkode/Operation;" (.ref a7)) (S8 : Sta Z h0 "com/example/minilingua/minilingua/lang/badkode/Operation" "LOOP" "Lcom/example/minilingua/minilingua/lang/badkode/Operation;" (.ref a8)) (S9 : Sta Z h0 "com/example/minilingua/minilingua/lang/badkode/Operation" "END_LOOP" "Lcom/example/minilingua/minilingua/lang/badkode/Operation;" (.ref a9)) :
    MetFree l (⟨"com/example/minilingua/minilingua/lang/badkode/OperationSpelledPinLaw", "expected", "(C)Lcom/example/minilingua/minilingua/lang/badkode/Operation;"⟩ : MethodName) (head1 (Jvm.Cond.code (⟨"com/example/minilingua/minilingua/lang/badkode/OperationSpelledPinLaw", "expected", "(C)Lcom/example/minilingua/minilingua/lang/badkode/Operation;"⟩ : MethodName) method_2_code 1 (some (.object "com/example/minilingua/minilingua/lang/badkode/Operation")) :: ws) ({ frames := 0, cells := 0, slots := 0, locals := 0 } : Room)) (fun a U => a = #[(.int q1)] ∧ Z.Warmed39 U.vm ∧ U.heap = h0) (fun _ _ _ _ _ => True) (fun _ U o U' => ∃ v L, o = .returned v ∧ own_QX Z q1 a0 a1 a2 a3 a4 a5 a6 a7 a8 a9 h0 n0 v U'.heap L ∧ FrameEnd U o U' L ({ frames := 0, cells := 0, slots := 0, locals := 0 } : Room).cells ({ frames := 0, cells := 0, slots := 0, locals := 0 } : Room).slots) := by
  refine own_met (Q := own_QX Z q1 a0 a1 a2 a3 a4 a5 a6 a7 a8 a9 h0 n0) (plainFor_of_name own_pn2) ?_
  intro p e s m below meth c s₁ K hx hby hml hown hnm hret hZ X0 e0 hK
  have hown : s.vm.findClass "com/example/minilingua/minilingua/lang/badkode/OperationSpelledPinLaw" = some m.cls := hown
  have N0 := Fr.nil n0
  refine own_by (fun t k => castTop (own_efX m q1) k) ?_
  show own_Go p.tables e below K (s₁.setTop (mkF m 0 #[.val (.int q1)] []))
  refine own_by (fun t k => XS.iloadN X0.here hx rfl (hb hby own_d2_0) rfl k) ?_
  show own_Go p.tables e below K (s₁.setTop (mkF m 1 #[.val (.int q1)] [(.int q1)]))
  refine own_by (fun t k => XS.bipush X0.here hx rfl (hb hby own_d2_1) k) ?_
  show own_Go p.tables e below K (s₁.setTop (mkF m 3 #[.val (.int q1)] [(.int (62 : Int32)), (.int q1)]))
  by_cases hc3 : q1 = (62 : Int32)
  · refine own_by (fun t k => XS.icmpNo X0.here hx rfl (hb hby own_d2_3) rfl (teq hc3).2 k) ?_
    show own_Go p.tables e below K (s₁.setTop (mkF m 6 #[.val (.int q1)] []))
    obtain ⟨T12, X12, e12, st12⟩ := getS2 X0 hx hZ hown (host := "") (Or.inl (hw _ (List.mem_of_getElem? (i := 56) rfl))) Via.refl e0 S0 (g := (mkF m 6 #[.val (.int q1)] [])) rfl (hb hby own_d2_6)
    refine own_by st12 ?_
    show own_Go p.tables e below K (T12.setTop (mkF m 9 #[.val (.int q1)] [(.ref a0)]))
    exact own_retA X12 hx hret rfl rfl rfl (hb hby own_d2_9) (hK (some (.ref a0)) X12 (fun h => by rw [hret] at h; cases h) (⟨by simp [own_pick, eq_comm, *], N0, e12⟩) (by decide) (by decide))
  · refine own_by (fun t k => XS.icmpYes X0.here hx rfl (pc0 := 3) (pc' := 10) rfl (hb hby own_d2_3) rfl (feq hc3).2 (by decide) (by decide) k) ?_
    show own_Go p.tables e below K (s₁.setTop (mkF m 10 #[.val (.int q1)] []))
    refine own_by (fun t k => XS.iloadN X0.here hx rfl (hb hby own_d2_10) rfl k) ?_
    show own_Go p.tables e below K (s₁.setTop (mkF m 11 #[.val (.int q1)] [(.int q1)]))
    refine own_by (fun t k => XS.bipush X0.here hx rfl (hb hby own_d2_11) k) ?_
    show own_Go p.tables e below K (s₁.setTop (mkF m 13 #[.val (.int q1)] [(.int (43 : Int32)), (.int q1)]))
    by_cases hc13 : q1 = (43 : Int32)
    · refine own_by (fun t k => XS.icmpNo X0.here hx rfl (hb hby own_d2_13) rfl (teq hc13).2 k) ?_
      show own_Go p.tables e below K (s₁.setTop (mkF m 16 #[.val (.int q1)] []))
      obtain ⟨T13, X13, e13, st13⟩ := getS2 X0 hx hZ hown (host := "") (Or.inl (hw _ (List.mem_of_getElem? (i := 58) rfl))) Via.refl e0 S1 (g := (mkF m 16 #[.val (.int q1)] [])) rfl (hb hby own_d2_16)
      refine own_by st13 ?_
      show own_Go p.tables e below K (T13.setTop (mkF m 19 #[.val (.int q1)] [(.ref a1)]))
      exact own_retA X13 hx hret rfl rfl rfl (hb hby own_d2_19) (hK (some (.ref a1)) X13 (fun h => by rw [hret] at h; cases h) (⟨by simp [own_pick, eq_comm, *], N0, e13⟩) (by decide) (by decide))
    · refine own_by (fun t k => XS.icmpYes X0.here hx rfl (pc0 := 13) (pc' := 20) rfl (hb hby own_d2_13) rfl (feq hc13).2 (by decide) (by decide) k) ?_
      show own_Go p.tables e below K (s₁.setTop (mkF m 20 #[.val (.int q1)] []))
      refine own_by (fun t k => XS.iloadN X0.here hx rfl (hb hby own_d2_20) rfl k) ?_
      show own_Go p.tables e below K (s₁.setTop (mkF m 21 #[.val (.int q1)] [(.int q1)]))
      refine own_by (fun t k => XS.bipush X0.here hx rfl (hb hby own_d2_21) k) ?_
      show own_Go p.tables e below K (s₁.setTop (mkF m 23 #[.val (.int q1)] [(.int (45 : Int32)), (.int q1)]))
      by_cases hc23 : q1 = (45 : Int32)
      · refine own_by (fun t k => XS.icmpNo X0.here hx rfl (hb hby own_d2_23) rfl (teq hc23).2 k) ?_
        show own_Go p.tables e below K (s₁.setTop (mkF m 26 #[.val (.int q1)] []))
        obtain ⟨T14, X14, e14, st14⟩ := getS2 X0 hx hZ hown (host := "") (Or.inl (hw _ (List.mem_of_getElem? (i := 57) rfl))) Via.refl e0 S2 (g := (mkF m 26 #[.val (.int q1)] [])) rfl (hb hby own_d2_26)
        refine own_by st14 ?_
        show own_Go p.tables e below K (T14.setTop (mkF m 29 #[.val (.int q1)] [(.ref a2)]))
        exact own_retA X14 hx hret rfl rfl rfl (hb hby own_d2_29) (hK (some (.ref a2)) X14 (fun h => by rw [hret] at h; cases h) (⟨by simp [own_pick, eq_comm, *], N0, e14⟩) (by decide) (by decide))
      · refine own_by (fun t k => XS.icmpYes X0.here hx rfl (pc0 := 23) (pc' := 30) rfl (hb hby own_d2_23) rfl (feq hc23).2 (by decide) (by decide) k) ?_
        show own_Go p.tables e below K (s₁.setTop (mkF m 30 #[.val (.int q1)] []))
        refine own_by (fun t k => XS.iloadN X0.here hx rfl (hb hby own_d2_30) rfl k) ?_
        show own_Go p.tables e below K (s₁.setTop (mkF m 31 #[.val (.int q1)] [(.int q1)]))
        refine own_by (fun t k => XS.bipush X0.here hx rfl (hb hby own_d2_31) k) ?_
        show own_Go p.tables e below K (s₁.setTop (mkF m 33 #[.val (.int q1)] [(.int (41 : Int32)), (.int q1)]))
        by_cases hc33 : q1 = (41 : Int32)
        · refine own_by (fun t k => XS.icmpNo X0.here hx rfl (hb hby own_d2_33) rfl (teq hc33).2 k) ?_
          show own_Go p.tables e below K (s₁.setTop (mkF m 36 #[.val (.int q1)] []))
          obtain ⟨T15, X15, e15, st15⟩ := getS2 X0 hx hZ hown (host := "") (Or.inl (hw _ (List.mem_of_getElem? (i := 59) rfl))) Via.refl e0 S3 (g := (mkF m 36 #[.val (.int q1)] [])) rfl (hb hby own_d2_36)
          refine own_by st15 ?_
          show own_Go p.tables e below K (T15.setTop (mkF m 39 #[.val (.int q1)] [(.ref a3)]))
          exact own_retA X15 hx hret rfl rfl rfl (hb hby own_d2_39) (hK (some (.ref a3)) X15 (fun h => by rw [hret] at h; cases h) (⟨by simp [own_pick, eq_comm, *], N0, e15⟩) (by decide) (by decide))
        · refine own_by (fun t k => XS.icmpYes X0.here hx rfl (pc0 := 33) (pc' := 40) rfl (hb hby own_d2_33) rfl (feq hc33).2 (by decide) (by decide) k) ?_
          show own_Go p.tables e below K (s₁.setTop (mkF m 40 #[.val (.int q1)] []))
          refine own_by (fun t k => XS.iloadN X0.here hx rfl (hb hby own_d2_40) rfl k) ?_
          show own_Go p.tables e below K (s₁.setTop (mkF m 41 #[.val (.int q1)] [(.int q1)]))
          refine own_by (fun t k => XS.bipush X0.here hx rfl (hb hby own_d2_41) k) ?_
          show own_Go p.tables e below K (s₁.setTop (mkF m 43 #[.val (.int q1)] [(.int (40 : Int32)), (.int q1)]))
          by_cases hc43 : q1 = (40 : Int32)
          · refine own_by (fun t k => XS.icmpNo X0.here hx rfl (hb hby own_d2_43) rfl (teq hc43).2 k) ?_
            show own_Go p.tables e below K (s₁.setTop (mkF m 46 #[.val (.int q1)] []))
            obtain ⟨T16, X16, e16, st16⟩ := getS2 X0 hx hZ hown (host := "") (Or.inl (hw _ (List.mem_of_getElem? (i := 60) rfl))) Via.refl e0 S4 (g := (mkF m 46 #[.val (.int q1)] [])) rfl (hb hby own_d2_46)
            refine own_by st16 ?_
            show own_Go p.tables e below K (T16.setTop (mkF m 49 #[.val (.int q1)] [(.ref a4)]))
            exact own_retA X16 hx hret rfl rfl rfl (hb hby own_d2_49) (hK (some (.ref a4)) X16 (fun h => by rw [hret] at h; cases h) (⟨by simp [own_pick, eq_comm, *], N0, e16⟩) (by decide) (by decide))
          · refine own_by (fun t k => XS.icmpYes X0.here hx rfl (pc0 := 43) (pc' := 50) rfl (hb hby own_d2_43) rfl (feq hc43).2 (by decide) (by decide) k) ?_
            show own_Go p.tables e below K (s₁.setTop (mkF m 50 #[.val (.int q1)] []))
            refine own_by (fun t k => XS.iloadN X0.here hx rfl (hb hby own_d2_50) rfl k) ?_
            show own_Go p.tables e below K (s₁.setTop (mkF m 51 #[.val (.int q1)] [(.int q1)]))
            refine own_by (fun t k => XS.bipush X0.here hx rfl (hb hby own_d2_51) k) ?_
            show own_Go p.tables e below K (s₁.setTop (mkF m 53 #[.val (.int q1)] [(.int (39 : Int32)), (.int q1)]))
            by_cases hc53 : q1 = (39 : Int32)
            · refine own_by (fun t k => XS.icmpNo X0.here hx rfl (hb hby own_d2_53) rfl (teq hc53).2 k) ?_
              show own_Go p.tables e below K (s₁.setTop (mkF m 56 #[.val (.int q1)] []))
              obtain ⟨T17, X17, e17, st17⟩ := getS2 X0 hx hZ hown (host := "") (Or.inl (hw _ (List.mem_of_getElem? (i := 63) rfl))) Via.refl e0 S5 (g := (mkF m 56 #[.val (.int q1)] [])) rfl (hb hby own_d2_56)
              refine own_by st17 ?_
              show own_Go p.tables e below K (T17.setTop (mkF m 59 #[.val (.int q1)] [(.ref a5)]))
              exact own_retA X17 hx hret rfl rfl rfl (hb hby own_d2_59) (hK (some (.ref a5)) X17 (fun h => by rw [hret] at h; cases h) (⟨by simp [own_pick, eq_comm, *], N0, e17⟩) (by decide) (by decide))
            · refine own_by (fun t k => XS.icmpYes X0.here hx rfl (pc0 := 53) (pc' := 60) rfl (hb hby own_d2_53) rfl (feq hc53).2 (by decide) (by decide) k) ?_
              show own_Go p.tables e below K (s₁.setTop (mkF m 60 #[.val (.int q1)] []))
              refine own_by (fun t k => XS.iloadN X0.here hx rfl (hb hby own_d2_60) rfl k) ?_
              show own_Go p.tables e below K (s₁.setTop (mkF m 61 #[.val (.int q1)] [(.int q1)]))
              refine own_by (fun t k => XS.bipush X0.here hx rfl (hb hby own_d2_61) k) ?_
              show own_Go p.tables e below K (s₁.setTop (mkF m 63 #[.val (.int q1)] [(.int (34 : Int32)), (.int q1)]))
              by_cases hc63 : q1 = (34 : Int32)
              · refine own_by (fun t k => XS.icmpNo X0.here hx rfl (hb hby own_d2_63) rfl (teq hc63).2 k) ?_
                show own_Go p.tables e below K (s₁.setTop (mkF m 66 #[.val (.int q1)] []))
                obtain ⟨T18, X18, e18, st18⟩ := getS2 X0 hx hZ hown (host := "") (Or.inl (hw _ (List.mem_of_getElem? (i := 62) rfl))) Via.refl e0 S6 (g := (mkF m 66 #[.val (.int q1)] [])) rfl (hb hby own_d2_66)
                refine own_by st18 ?_
                show own_Go p.tables e below K (T18.setTop (mkF m 69 #[.val (.int q1)] [(.ref a6)]))
                exact own_retA X18 hx hret rfl rfl rfl (hb hby own_d2_69) (hK (some (.ref a6)) X18 (fun h => by rw [hret] at h; cases h) (⟨by simp [own_pick, eq_comm, *], N0, e18⟩) (by decide) (by decide))
              · refine own_by (fun t k => XS.icmpYes X0.here hx rfl (pc0 := 63) (pc' := 70) rfl (hb hby own_d2_63) rfl (feq hc63).2 (by decide) (by decide) k) ?_
                show own_Go p.tables e below K (s₁.setTop (mkF m 70 #[.val (.int q1)] []))
                refine own_by (fun t k => XS.iloadN X0.here hx rfl (hb hby own_d2_70) rfl k) ?_
                show own_Go p.tables e below K (s₁.setTop (mkF m 71 #[.val (.int q1)] [(.int q1)]))
                refine own_by (fun t k => XS.bipush X0.here hx rfl (hb hby own_d2_71) k) ?_
                show own_Go p.tables e below K (s₁.setTop (mkF m 73 #[.val (.int q1)] [(.int (63 : Int32)), (.int q1)]))
                by_cases hc73 : q1 = (63 : Int32)
                · refine own_by (fun t k => XS.icmpNo X0.here hx rfl (hb hby own_d2_73) rfl (teq hc73).2 k) ?_
                  show own_Go p.tables e below K (s₁.setTop (mkF m 76 #[.val (.int q1)] []))
                  obtain ⟨T19, X19, e19, st19⟩ := getS2 X0 hx hZ hown (host := "") (Or.inl (hw _ (List.mem_of_getElem? (i := 61) rfl))) Via.refl e0 S7 (g := (mkF m 76 #[.val (.int q1)] [])) rfl (hb hby own_d2_76)
                  refine own_by st19 ?_
                  show own_Go p.tables e below K (T19.setTop (mkF m 79 #[.val (.int q1)] [(.ref a7)]))
                  exact own_retA X19 hx hret rfl rfl rfl (hb hby own_d2_79) (hK (some (.ref a7)) X19 (fun h => by rw [hret] at h; cases h) (⟨by simp [own_pick, eq_comm, *], N0, e19⟩) (by decide) (by decide))
                · refine own_by (fun t k => XS.icmpYes X0.here hx rfl (pc0 := 73) (pc' := 80) rfl (hb hby own_d2_73) rfl (feq hc73).2 (by decide) (by decide) k) ?_
                  show own_Go p.tables e below K (s₁.setTop (mkF m 80 #[.val (.int q1)] []))
                  refine own_by (fun t k => XS.iloadN X0.here hx rfl (hb hby own_d2_80) rfl k) ?_
                  show own_Go p.tables e below K (s₁.setTop (mkF m 81 #[.val (.int q1)] [(.int q1)]))
                  refine own_by (fun t k => XS.bipush X0.here hx rfl (hb hby own_d2_81) k) ?_
                  show own_Go p.tables e below K (s₁.setTop (mkF m 83 #[.val (.int q1)] [(.int (123 : Int32)), (.int q1)]))
                  by_cases hc83 : q1 = (123 : Int32)
                  · refine own_by (fun t k => XS.icmpNo X0.here hx rfl (hb hby own_d2_83) rfl (teq hc83).2 k) ?_
                    show own_Go p.tables e below K (s₁.setTop (mkF m 86 #[.val (.int q1)] []))
                    obtain ⟨T20, X20, e20, st20⟩ := getS2 X0 hx hZ hown (host := "") (Or.inl (hw _ (List.mem_of_getElem? (i := 64) rfl))) Via.refl e0 S8 (g := (mkF m 86 #[.val (.int q1)] [])) rfl (hb hby own_d2_86)
                    refine own_by st20 ?_
                    show own_Go p.tables e below K (T20.setTop (mkF m 89 #[.val (.int q1)] [(.ref a8)]))
                    exact own_retA X20 hx hret rfl rfl rfl (hb hby own_d2_89) (hK (some (.ref a8)) X20 (fun h => by rw [hret] at h; cases h) (⟨by simp [own_pick, eq_comm, *], N0, e20⟩) (by decide) (by decide))
                  · refine own_by (fun t k => XS.icmpYes X0.here hx rfl (pc0 := 83) (pc' := 90) rfl (hb hby own_d2_83) rfl (feq hc83).2 (by decide) (by decide) k) ?_
                    show own_Go p.tables e below K (s₁.setTop (mkF m 90 #[.val (.int q1)] []))
                    refine own_by (fun t k => XS.iloadN X0.here hx rfl (hb hby own_d2_90) rfl k) ?_
                    show own_Go p.tables e below K (s₁.setTop (mkF m 91 #[.val (.int q1)] [(.int q1)]))
                    refine own_by (fun t k => XS.bipush X0.here hx rfl (hb hby own_d2_91) k) ?_
                    show own_Go p.tables e below K (s₁.setTop (mkF m 93 #[.val (.int q1)] [(.int (125 : Int32)), (.int q1)]))
                    by_cases hc93 : q1 = (125 : Int32)
                    · refine own_by (fun t k => XS.icmpNo X0.here hx rfl (hb hby own_d2_93) rfl (teq hc93).2 k) ?_
                      show own_Go p.tables e below K (s₁.setTop (mkF m 96 #[.val (.int q1)] []))
                      obtain ⟨T21, X21, e21, st21⟩ := getS2 X0 hx hZ hown (host := "") (Or.inl (hw _ (List.mem_of_getElem? (i := 55) rfl))) Via.refl e0 S9 (g := (mkF m 96 #[.val (.int q1)] [])) rfl (hb hby own_d2_96)
                      refine own_by st21 ?_
                      show own_Go p.tables e below K (T21.setTop (mkF m 99 #[.val (.int q1)] [(.ref a9)]))
                      exact own_retA X21 hx hret rfl rfl rfl (hb hby own_d2_99) (hK (some (.ref a9)) X21 (fun h => by rw [hret] at h; cases h) (⟨by simp [own_pick, eq_comm, *], N0, e21⟩) (by decide) (by decide))
                    · refine own_by (fun t k => XS.icmpYes X0.here hx rfl (pc0 := 93) (pc' := 100) rfl (hb hby own_d2_93) rfl (feq hc93).2 (by decide) (by decide) k) ?_
                      show own_Go p.tables e below K (s₁.setTop (mkF m 100 #[.val (.int q1)] []))
                      refine own_by (fun t k => XS.aconstNull X0.here hx rfl (hb hby own_d2_100) k) ?_
                      show own_Go p.tables e below K (s₁.setTop (mkF m 101 #[.val (.int q1)] [.null]))
                      exact own_retA X0 hx hret rfl rfl rfl (hb hby own_d2_101) (hK (some .null) X0 (fun h => by rw [hret] at h; cases h) (⟨by simp [own_pick, eq_comm, *], N0, e0⟩) (by decide) (by decide))
theorem own_pn7 : plainName "jdk/internal/util/Preconditions" = true := by first | (simp [plainName, overriddenIn]; done) | decide +kernel
theorem own_d7_0 : decode jdk_41_method_11_code 0 = .ok (.iload_n 0, 1) := by decide +kernel
theorem own_d7_1 : decode jdk_41_method_11_code 1 = .ok (.ifCond .lt 8, 3) := by decide +kernel
theorem own_d7_4 : decode jdk_41_method_11_code 4 = .ok (.iload_n 0, 1) := by decide +kernel
theorem own_d7_5 : decode jdk_41_method_11_code 5 = .ok (.iload_n 1, 1) := by decide +kernel
theorem own_d7_6 : decode jdk_41_method_11_code 6 = .ok (.if_icmp .lt 10, 3) := by decide +kernel
theorem own_d7_16 : decode jdk_41_method_11_code 16 = .ok (.iload_n 0, 1) := by decide +kernel
theorem own_d7_17 : decode jdk_41_method_11_code 17 = .ok (.ireturn, 1) := by decide +kernel
theorem own_efP0 (m : MethodId) (q1 : Int32) (q2 : Int32) : entryFrame m #[(.int q1), (.int q2), .null] 3 = mkF m 0 #[.val (.int q1), .val (.int q2), .val .null] [] := by first | (simp [entryFrame, mkF, argsToLocals, Value.category]; done) | rfl
def own_QP0 (Z : State) (q1 : Int32) (q2 : Int32) (h0 : Heap) (n0 : Nat) (v : Option Value) (h : Heap) (L : List Loc) : Prop := (∃ r : Int32, v = some (.int r)) ∧ Fr n0 L ∧ h = h0
set_option maxRecDepth 65536 in
set_option maxHeartbeats 40000000 in
theorem own_rmP0 (l : Launch) (Z : State) (aw : Array Value) (hw : ∀ d ∈ tables_1, d.before aw Z = true) (ws : List Jvm.Cond) (q1 : Int32) (q2 : Int32) (h0 : Heap) (n0 : Nat) (Z0 : n0 ≤ h0.size) (h1 : ¬ q1 < 0) (h2 : q1 < q2) :
    MetFree l (⟨"jdk/internal/util/Preconditions", "checkIndex", "(IILjava/util/function/BiFunction;)I"⟩ : MethodName) (head1 (Jvm.Cond.code (⟨"jdk/internal/util/Preconditions", "checkIndex", "(IILjava/util/function/BiFunction;)I"⟩ : MethodName) jdk_41_method_11_code 3 (some .int) :: ws) ({ frames := 0, cells := 0, slots := 0, locals := 0 } : Room)) (fun a U => a = #[(.int q1), (.int q2), .null] ∧ Z.Warmed39 U.vm ∧ U.heap = h0) (fun _ _ _ _ _ => True) (fun _ U o U' => ∃ v L, o = .returned v ∧ own_QP0 Z q1 q2 h0 n0 v U'.heap L ∧ FrameEnd U o U' L ({ frames := 0, cells := 0, slots := 0, locals := 0 } : Room).cells ({ frames := 0, cells := 0, slots := 0, locals := 0 } : Room).slots) := by
  refine own_met (Q := own_QP0 Z q1 q2 h0 n0) (plainFor_of_name own_pn7) ?_
  intro p e s m below meth c s₁ K hx hby hml hown hnm hret hZ X0 e0 hK
  have hown : s.vm.findClass "jdk/internal/util/Preconditions" = some m.cls := hown
  have N0 := Fr.nil n0
  refine own_by (fun t k => castTop (own_efP0 m q1 q2) k) ?_
  show own_Go p.tables e below K (s₁.setTop (mkF m 0 #[.val (.int q1), .val (.int q2), .val .null] []))
  refine own_by (fun t k => XS.iloadN X0.here hx rfl (hb hby own_d7_0) rfl k) ?_
  show own_Go p.tables e below K (s₁.setTop (mkF m 1 #[.val (.int q1), .val (.int q2), .val .null] [(.int q1)]))
  have hc1 : ¬ (q1 < (0 : Int32)) := h1
  refine own_by (fun t k => XS.ifNo X0.here hx rfl (hb hby own_d7_1) rfl ((if0 _ _).trans (flt hc1).1) k) ?_
  show own_Go p.tables e below K (s₁.setTop (mkF m 4 #[.val (.int q1), .val (.int q2), .val .null] []))
  refine own_by (fun t k => XS.iloadN X0.here hx rfl (hb hby own_d7_4) rfl k) ?_
  show own_Go p.tables e below K (s₁.setTop (mkF m 5 #[.val (.int q1), .val (.int q2), .val .null] [(.int q1)]))
  refine own_by (fun t k => XS.iloadN X0.here hx rfl (hb hby own_d7_5) rfl k) ?_
  show own_Go p.tables e below K (s₁.setTop (mkF m 6 #[.val (.int q1), .val (.int q2), .val .null] [(.int q2), (.int q1)]))
  have hc6 : q1 < q2 := h2
  refine own_by (fun t k => XS.icmpYes X0.here hx rfl (pc0 := 6) (pc' := 16) rfl (hb hby own_d7_6) rfl (tlt hc6).1 (by decide) (by decide) k) ?_
  show own_Go p.tables e below K (s₁.setTop (mkF m 16 #[.val (.int q1), .val (.int q2), .val .null] []))
  refine own_by (fun t k => XS.iloadN X0.here hx rfl (hb hby own_d7_16) rfl k) ?_
  show own_Go p.tables e below K (s₁.setTop (mkF m 17 #[.val (.int q1), .val (.int q2), .val .null] [(.int q1)]))
  exact own_retI X0 hx hret (hb hby own_d7_17) (hK (some (.int q1)) X0 (fun h => by rw [hret] at h; cases h) (⟨⟨_, rfl⟩, N0, e0⟩) (by decide) (by decide))
theorem own_efP1 (m : MethodId) (q1 : Int32) (q2 : Int32) (r1 : Addr) : entryFrame m #[(.int q1), (.int q2), (.ref r1)] 3 = mkF m 0 #[.val (.int q1), .val (.int q2), .val (.ref r1)] [] := by first | (simp [entryFrame, mkF, argsToLocals, Value.category]; done) | rfl
def own_QP1 (Z : State) (q1 : Int32) (q2 : Int32) (r1 : Addr) (h0 : Heap) (n0 : Nat) (v : Option Value) (h : Heap) (L : List Loc) : Prop := (∃ r : Int32, v = some (.int r)) ∧ Fr n0 L ∧ h = h0
set_option maxRecDepth 65536 in
set_option maxHeartbeats 40000000 in
theorem own_rmP1 (l : Launch) (Z : State) (aw : Array Value) (hw : ∀ d ∈ tables_1, d.before aw Z = true) (ws : List Jvm.Cond) (q1 : Int32) (q2 : Int32) (r1 : Addr) (h0 : Heap) (n0 : Nat) (Z0 : n0 ≤ h0.size) (h1 : ¬ q1 < 0) (h2 : q1 < q2) :
    MetFree l (⟨"jdk/internal/util/Preconditions", "checkIndex", "(IILjava/util/function/BiFunction;)I"⟩ : MethodName) (head1 (Jvm.Cond.code (⟨"jdk/internal/util/Preconditions", "checkIndex", "(IILjava/util/function/BiFunction;)I"⟩ : MethodName) jdk_41_method_11_code 3 (some .int) :: ws) ({ frames := 0, cells := 0, slots := 0, locals := 0 } : Room)) (fun a U => a = #[(.int q1), (.int q2), (.ref r1)] ∧ Z.Warmed39 U.vm ∧ U.heap = h0) (fun _ _ _ _ _ => True) (fun _ U o U' => ∃ v L, o = .returned v ∧ own_QP1 Z q1 q2 r1 h0 n0 v U'.heap L ∧ FrameEnd U o U' L ({ frames := 0, cells := 0, slots := 0, locals := 0 } : Room).cells ({ frames := 0, cells := 0, slots := 0, locals := 0 } : Room).slots) := by
  refine own_met (Q := own_QP1 Z q1 q2 r1 h0 n0) (plainFor_of_name own_pn7) ?_
  intro p e s m below meth c s₁ K hx hby hml hown hnm hret hZ X0 e0 hK
  have hown : s.vm.findClass "jdk/internal/util/Preconditions" = some m.cls := hown
  have N0 := Fr.nil n0
  refine own_by (fun t k => castTop (own_efP1 m q1 q2 r1) k) ?_
  show own_Go p.tables e below K (s₁.setTop (mkF m 0 #[.val (.int q1), .val (.int q2), .val (.ref r1)] []))
  refine own_by (fun t k => XS.iloadN X0.here hx rfl (hb hby own_d7_0) rfl k) ?_
  show own_Go p.tables e below K (s₁.setTop (mkF m 1 #[.val (.int q1), .val (.int q2), .val (.ref r1)] [(.int q1)]))
  have hc1 : ¬ (q1 < (0 : Int32)) := h1
  refine own_by (fun t k => XS.ifNo X0.here hx rfl (hb hby own_d7_1) rfl ((if0 _ _).trans (flt hc1).1) k) ?_
  show own_Go p.tables e below K (s₁.setTop (mkF m 4 #[.val (.int q1), .val (.int q2), .val (.ref r1)] []))
  refine own_by (fun t k => XS.iloadN X0.here hx rfl (hb hby own_d7_4) rfl k) ?_
  show own_Go p.tables e below K (s₁.setTop (mkF m 5 #[.val (.int q1), .val (.int q2), .val (.ref r1)] [(.int q1)]))
  refine own_by (fun t k => XS.iloadN X0.here hx rfl (hb hby own_d7_5) rfl k) ?_
  show own_Go p.tables e below K (s₁.setTop (mkF m 6 #[.val (.int q1), .val (.int q2), .val (.ref r1)] [(.int q2), (.int q1)]))
  have hc6 : q1 < q2 := h2
  refine own_by (fun t k => XS.icmpYes X0.here hx rfl (pc0 := 6) (pc' := 16) rfl (hb hby own_d7_6) rfl (tlt hc6).1 (by decide) (by decide) k) ?_
  show own_Go p.tables e below K (s₁.setTop (mkF m 16 #[.val (.int q1), .val (.int q2), .val (.ref r1)] []))
  refine own_by (fun t k => XS.iloadN X0.here hx rfl (hb hby own_d7_16) rfl k) ?_
  show own_Go p.tables e below K (s₁.setTop (mkF m 17 #[.val (.int q1), .val (.int q2), .val (.ref r1)] [(.int q1)]))
  exact own_retI X0 hx hret (hb hby own_d7_17) (hK (some (.int q1)) X0 (fun h => by rw [hret] at h; cases h) (⟨⟨_, rfl⟩, N0, e0⟩) (by decide) (by decide))
theorem own_pd0 : parseMethodDescriptor "(IILjava/util/function/BiFunction;)I" = some ⟨[.int, .int, (.object "java/util/function/BiFunction")], some .int⟩ := by decide +kernel
theorem own_pn6 : plainName "java/lang/String" = true := by first | (simp [plainName, overriddenIn]; done) | decide +kernel
theorem own_d6_0 : decode jdk_42_method_155_code 0 = .ok (.iload_n 0, 1) := by decide +kernel
theorem own_d6_1 : decode jdk_42_method_155_code 1 = .ok (.iload_n 1, 1) := by decide +kernel
theorem own_d6_2 : decode jdk_42_method_155_code 2 = .ok (.getstatic 1053, 3) := by decide +kernel
theorem own_d6_5 : decode jdk_42_method_155_code 5 = .ok (.invokestatic 1059, 3) := by decide +kernel
theorem own_d6_8 : decode jdk_42_method_155_code 8 = .ok (.pop, 1) := by decide +kernel
theorem own_d6_9 : decode jdk_42_method_155_code 9 = .ok (.return_, 1) := by decide +kernel
theorem own_efC (m : MethodId) (q1 : Int32) (q2 : Int32) : entryFrame m #[(.int q1), (.int q2)] 2 = mkF m 0 #[.val (.int q1), .val (.int q2)] [] := by first | (simp [entryFrame, mkF, argsToLocals, Value.category]; done) | rfl
def own_QC (Z : State) (q1 : Int32) (q2 : Int32) (G3 : Value) (h0 : Heap) (n0 : Nat) (v : Option Value) (h : Heap) (L : List Loc) : Prop := v = none ∧ Fr n0 L ∧ h = h0
set_option maxRecDepth 65536 in
set_option maxHeartbeats 40000000 in
theorem own_rmC (l : Launch) (Z : State) (aw : Array Value) (hw : ∀ d ∈ tables_1, d.before aw Z = true) (ws : List Jvm.Cond) (q1 : Int32) (q2 : Int32) (G3 : Value) (h0 : Heap) (n0 : Nat) (Z0 : n0 ≤ h0.size) (h1 : ¬ q1 < 0) (h2 : q1 < q2) (S3 : Sta Z h0 "jdk/internal/util/Preconditions" "SIOOBE_FORMATTER" "Ljava/util/function/BiFunction;" G3) (r3 : G3.isRef = true) :
    MetFree l (⟨"java/lang/String", "checkIndex", "(II)V"⟩ : MethodName) (head1 (Jvm.Cond.code (⟨"java/lang/String", "checkIndex", "(II)V"⟩ : MethodName) jdk_42_method_155_code 2 none :: ws) ({ frames := 1, cells := 0, slots := 0, locals := 14 } : Room)) (fun a U => a = #[(.int q1), (.int q2)] ∧ Z.Warmed39 U.vm ∧ U.heap = h0) (fun _ _ _ _ _ => True) (fun _ U o U' => ∃ v L, o = .returned v ∧ own_QC Z q1 q2 G3 h0 n0 v U'.heap L ∧ FrameEnd U o U' L ({ frames := 1, cells := 0, slots := 0, locals := 14 } : Room).cells ({ frames := 1, cells := 0, slots := 0, locals := 14 } : Room).slots) := by
  refine own_met (Q := own_QC Z q1 q2 G3 h0 n0) (plainFor_of_name own_pn6) ?_
  intro p e s m below meth c s₁ K hx hby hml hown hnm hret hZ X0 e0 hK
  have hown : s.vm.findClass "java/lang/String" = some m.cls := hown
  have N0 := Fr.nil n0
  refine own_by (fun t k => castTop (own_efC m q1 q2) k) ?_
  show own_Go p.tables e below K (s₁.setTop (mkF m 0 #[.val (.int q1), .val (.int q2)] []))
  refine own_by (fun t k => XS.iloadN X0.here hx rfl (hb hby own_d6_0) rfl k) ?_
  show own_Go p.tables e below K (s₁.setTop (mkF m 1 #[.val (.int q1), .val (.int q2)] [(.int q1)]))
  refine own_by (fun t k => XS.iloadN X0.here hx rfl (hb hby own_d6_1) rfl k) ?_
  show own_Go p.tables e below K (s₁.setTop (mkF m 2 #[.val (.int q1), .val (.int q2)] [(.int q2), (.int q1)]))
  obtain ⟨T22, X22, e22, st22⟩ := getS2 X0 hx hZ hown (host := "") (Or.inl (hw _ (List.mem_of_getElem? (i := 50) rfl))) Via.refl e0 S3 (g := (mkF m 2 #[.val (.int q1), .val (.int q2)] [(.int q2), (.int q1)])) rfl (hb hby own_d6_2)
  refine own_by st22 ?_
  rcases ref_cases r3 with rfl | ⟨g3, rfl⟩
  · show own_Go p.tables e below K (T22.setTop (mkF m 5 #[.val (.int q1), .val (.int q2)] [.null, (.int q2), (.int q1)]))
    obtain ⟨_, _, ⟨T23, L23, k23, n23⟩, -, X23, ⟨Lc23, hQ23, l23, y23, z23⟩, st23⟩ := Jvm.LawKit.callS X22 hx (y := (⟨"jdk/internal/util/Preconditions", "checkIndex", "(IILjava/util/function/BiFunction;)I"⟩ : MethodName)) hown (mvT hZ (hw _ (List.mem_of_getElem? (i := 52) rfl))) (mvT hZ (hw _ (List.mem_of_getElem? (i := 53) rfl))) (mvT hZ (hw _ (List.mem_of_getElem? (i := 51) rfl))) (mvT hZ (hw _ (List.mem_of_getElem? (i := 54) rfl))) (by decide) (backOf (W := 0) (own_rmP0 l Z aw hw [] q1 q2 h0 n0 Z0 h1 h2) hZ (hw _ (List.mem_of_getElem? (i := 54) rfl)) (hw _ (List.mem_of_getElem? (i := 51) rfl)) (by decide) (by decide)) (g := (mkF m 5 #[.val (.int q1), .val (.int q2)] [.null, (.int q2), (.int q1)])) rfl (by rw [hml]; rfl) (argsL := [(.int q1), (.int q2), .null]) (rest := []) (lenOf own_pd0 rfl) rfl (by show 2 * 0 + _ ≤ _; exact Nat.le_of_eq rfl) (hb hby own_d6_5) (fun _ _ => ⟨rfl, e22, (by decide : 0 + 0 ≤ _), (by decide : 0 + 0 ≤ _)⟩)
    dsimp only [Pt.U, Pt.locs, Pt.cells, Pt.slots] at X23 l23 y23 z23 st23 hQ23
    subst l23 y23 z23
    obtain ⟨⟨r23, rfl⟩, N23q, e23⟩ := hQ23
    have N23 := Fr.app N0 N23q
    refine own_by st23 ?_
    show own_Go p.tables e below K (T23.setTop (mkF m 8 #[.val (.int q1), .val (.int q2)] [(.int r23)]))
    refine own_by (fun t k => XS.pop X23.here hx rfl (hb hby own_d6_8) rfl rfl k) ?_
    show own_Go p.tables e below K (T23.setTop (mkF m 9 #[.val (.int q1), .val (.int q2)] []))
    exact own_retV X23 hx hret (hb hby own_d6_9) (hK none X23 (fun _ => rfl) (⟨rfl, N23, e23⟩) (by decide) (by decide))
  · show own_Go p.tables e below K (T22.setTop (mkF m 5 #[.val (.int q1), .val (.int q2)] [(.ref g3), (.int q2), (.int q1)]))
    obtain ⟨_, _, ⟨T24, L24, k24, n24⟩, -, X24, ⟨Lc24, hQ24, l24, y24, z24⟩, st24⟩ := Jvm.LawKit.callS X22 hx (y := (⟨"jdk/internal/util/Preconditions", "checkIndex", "(IILjava/util/function/BiFunction;)I"⟩ : MethodName)) hown (mvT hZ (hw _ (List.mem_of_getElem? (i := 52) rfl))) (mvT hZ (hw _ (List.mem_of_getElem? (i := 53) rfl))) (mvT hZ (hw _ (List.mem_of_getElem? (i := 51) rfl))) (mvT hZ (hw _ (List.mem_of_getElem? (i := 54) rfl))) (by decide) (backOf (W := 0) (own_rmP1 l Z aw hw [] q1 q2 g3 h0 n0 Z0 h1 h2) hZ (hw _ (List.mem_of_getElem? (i := 54) rfl)) (hw _ (List.mem_of_getElem? (i := 51) rfl)) (by decide) (by decide)) (g := (mkF m 5 #[.val (.int q1), .val (.int q2)] [(.ref g3), (.int q2), (.int q1)])) rfl (by rw [hml]; rfl) (argsL := [(.int q1), (.int q2), (.ref g3)]) (rest := []) (lenOf own_pd0 rfl) rfl (by show 2 * 0 + _ ≤ _; exact Nat.le_of_eq rfl) (hb hby own_d6_5) (fun _ _ => ⟨rfl, e22, (by decide : 0 + 0 ≤ _), (by decide : 0 + 0 ≤ _)⟩)
    dsimp only [Pt.U, Pt.locs, Pt.cells, Pt.slots] at X24 l24 y24 z24 st24 hQ24
    subst l24 y24 z24
    obtain ⟨⟨r24, rfl⟩, N24q, e24⟩ := hQ24
    have N24 := Fr.app N0 N24q
    refine own_by st24 ?_
    show own_Go p.tables e below K (T24.setTop (mkF m 8 #[.val (.int q1), .val (.int q2)] [(.int r24)]))
    refine own_by (fun t k => XS.pop X24.here hx rfl (hb hby own_d6_8) rfl rfl k) ?_
    show own_Go p.tables e below K (T24.setTop (mkF m 9 #[.val (.int q1), .val (.int q2)] []))
    exact own_retV X24 hx hret (hb hby own_d6_9) (hK none X24 (fun _ => rfl) (⟨rfl, N24, e24⟩) (by decide) (by decide))
theorem own_pd1 : parseMethodDescriptor "(II)V" = some ⟨[.int, .int], none⟩ := by decide +kernel
theorem own_pn5 : plainName "java/lang/StringLatin1" = true := by first | (simp [plainName, overriddenIn]; done) | decide +kernel
theorem own_d5_0 : decode jdk_43_method_2_code 0 = .ok (.iload_n 1, 1) := by decide +kernel
theorem own_d5_1 : decode jdk_43_method_2_code 1 = .ok (.aload_n 0, 1) := by decide +kernel
theorem own_d5_2 : decode jdk_43_method_2_code 2 = .ok (.arraylength, 1) := by decide +kernel
theorem own_d5_3 : decode jdk_43_method_2_code 3 = .ok (.invokestatic 9, 3) := by decide +kernel
theorem own_d5_6 : decode jdk_43_method_2_code 6 = .ok (.aload_n 0, 1) := by decide +kernel
theorem own_d5_7 : decode jdk_43_method_2_code 7 = .ok (.iload_n 1, 1) := by decide +kernel
theorem own_d5_8 : decode jdk_43_method_2_code 8 = .ok (.baload, 1) := by decide +kernel
theorem own_d5_9 : decode jdk_43_method_2_code 9 = .ok (.sipush 255, 3) := by decide +kernel
theorem own_d5_12 : decode jdk_43_method_2_code 12 = .ok (.iand, 1) := by decide +kernel
theorem own_d5_13 : decode jdk_43_method_2_code 13 = .ok (.i2c, 1) := by decide +kernel
theorem own_d5_14 : decode jdk_43_method_2_code 14 = .ok (.ireturn, 1) := by decide +kernel
theorem own_efL (m : MethodId) (ab : Addr) (q1 : Int32) : entryFrame m #[(.ref ab), (.int q1)] 2 = mkF m 0 #[.val (.ref ab), .val (.int q1)] [] := by first | (simp [entryFrame, mkF, argsToLocals, Value.category]; done) | rfl
def own_QL (Z : State) (ab : Addr) (q1 : Int32) (kb : ClassId) (z : Int32) (vs : List Value) (G3 : Value) (h0 : Heap) (n0 : Nat) (v : Option Value) (h : Heap) (L : List Loc) : Prop := (∃ r : Int32, v = some (.int r)) ∧ Fr n0 L ∧ h = h0
set_option maxRecDepth 65536 in
set_option maxHeartbeats 40000000 in
theorem own_rmL (l : Launch) (Z : State) (aw : Array Value) (hw : ∀ d ∈ tables_1, d.before aw Z = true) (ws : List Jvm.Cond) (ab : Addr) (q1 : Int32) (kb : ClassId) (z : Int32) (vs : List Value) (G3 : Value) (h0 : Heap) (n0 : Nat) (Z0 : n0 ≤ h0.size) (hV : Arv Z h0 ab kb .byte z vs (.int 0)) (h1 : ¬ q1 < 0) (h2 : q1 < z) (S3 : Sta Z h0 "jdk/internal/util/Preconditions" "SIOOBE_FORMATTER" "Ljava/util/function/BiFunction;" G3) (r3 : G3.isRef = true) :
    MetFree l (⟨"java/lang/StringLatin1", "charAt", "([BI)C"⟩ : MethodName) (head1 (Jvm.Cond.code (⟨"java/lang/StringLatin1", "charAt", "([BI)C"⟩ : MethodName) jdk_43_method_2_code 2 (some .char) :: ws) ({ frames := 2, cells := 0, slots := 0, locals := 27 } : Room)) (fun a U => a = #[(.ref ab), (.int q1)] ∧ Z.Warmed39 U.vm ∧ U.heap = h0) (fun _ _ _ _ _ => True) (fun _ U o U' => ∃ v L, o = .returned v ∧ own_QL Z ab q1 kb z vs G3 h0 n0 v U'.heap L ∧ FrameEnd U o U' L ({ frames := 2, cells := 0, slots := 0, locals := 27 } : Room).cells ({ frames := 2, cells := 0, slots := 0, locals := 27 } : Room).slots) := by
  refine own_met (Q := own_QL Z ab q1 kb z vs G3 h0 n0) (plainFor_of_name own_pn5) ?_
  intro p e s m below meth c s₁ K hx hby hml hown hnm hret hZ X0 e0 hK
  have hown : s.vm.findClass "java/lang/StringLatin1" = some m.cls := hown
  have N0 := Fr.nil n0
  refine own_by (fun t k => castTop (own_efL m ab q1) k) ?_
  obtain ⟨cl, hAr, -, hS, hM, hH, hG⟩ := hV
  have hin := inb_of hS ⟨h1, h2⟩
  have hlt : q1.toNatClampNeg < cl.slots.size := Nat.lt_of_not_le fun q => hin (Or.inr q)
  obtain ⟨r, hr⟩ := fit_I (hG _ hlt) (by simp)
  have hat : cl.slots[q1.toNatClampNeg]? = some (.int r) := by rw [hH _ hlt, hr]
  show own_Go p.tables e below K (s₁.setTop (mkF m 0 #[.val (.ref ab), .val (.int q1)] []))
  refine own_by (fun t k => XS.iloadN X0.here hx rfl (hb hby own_d5_0) rfl k) ?_
  show own_Go p.tables e below K (s₁.setTop (mkF m 1 #[.val (.ref ab), .val (.int q1)] [(.int q1)]))
  refine own_by (fun t k => XS.aloadN X0.here hx rfl (hb hby own_d5_1) rfl rfl k) ?_
  show own_Go p.tables e below K (s₁.setTop (mkF m 2 #[.val (.ref ab), .val (.int q1)] [(.ref ab), (.int q1)]))
  refine own_by (fun t k => X0.arraylength hx (by rw [e0]; exact hAr.1) (State.isArrayOf_alike hZ.alike hAr.2.1) (g := (mkF m 2 #[.val (.ref ab), .val (.int q1)] [(.ref ab), (.int q1)])) rfl rfl (hb hby own_d5_2) t k) ?_
  rw [len_of hS hM]
  show own_Go p.tables e below K (s₁.setTop (mkF m 3 #[.val (.ref ab), .val (.int q1)] [(.int z), (.int q1)]))
  obtain ⟨_, _, ⟨T25, L25, k25, n25⟩, -, X25, ⟨Lc25, hQ25, l25, y25, z25⟩, st25⟩ := Jvm.LawKit.callS X0 hx (y := (⟨"java/lang/String", "checkIndex", "(II)V"⟩ : MethodName)) hown (mvT hZ (hw _ (List.mem_of_getElem? (i := 47) rfl))) (mvT hZ (hw _ (List.mem_of_getElem? (i := 48) rfl))) (mvT hZ (hw _ (List.mem_of_getElem? (i := 23) rfl))) (mvT hZ (hw _ (List.mem_of_getElem? (i := 49) rfl))) (by decide) (backOf (W := 0) (own_rmC l Z aw hw [] q1 z G3 h0 n0 Z0 h1 h2 S3 r3) hZ (hw _ (List.mem_of_getElem? (i := 49) rfl)) (hw _ (List.mem_of_getElem? (i := 23) rfl)) (by decide) (by decide)) (g := (mkF m 3 #[.val (.ref ab), .val (.int q1)] [(.int z), (.int q1)])) rfl (by rw [hml]; rfl) (argsL := [(.int q1), (.int z)]) (rest := []) (lenOf own_pd1 rfl) rfl (by show 2 * 0 + _ ≤ _; exact Nat.le_of_eq rfl) (hb hby own_d5_3) (fun _ _ => ⟨rfl, e0, (by decide : 0 + 0 ≤ _), (by decide : 0 + 0 ≤ _)⟩)
  dsimp only [Pt.U, Pt.locs, Pt.cells, Pt.slots] at X25 l25 y25 z25 st25 hQ25
  subst l25 y25 z25
  obtain ⟨rfl, N25q, e25⟩ := hQ25
  have N25 := Fr.app N0 N25q
  refine own_by st25 ?_
  show own_Go p.tables e below K (T25.setTop (mkF m 6 #[.val (.ref ab), .val (.int q1)] []))
  refine own_by (fun t k => XS.aloadN X25.here hx rfl (hb hby own_d5_6) rfl rfl k) ?_
  show own_Go p.tables e below K (T25.setTop (mkF m 7 #[.val (.ref ab), .val (.int q1)] [(.ref ab)]))
  refine own_by (fun t k => XS.iloadN X25.here hx rfl (hb hby own_d5_7) rfl k) ?_
  show own_Go p.tables e below K (T25.setTop (mkF m 8 #[.val (.ref ab), .val (.int q1)] [(.int q1), (.ref ab)]))
  refine own_by (fun t k => X25.baloadBytes hx (j := q1) (v := .int r) (by rw [e25]; exact hAr.1) (State.isArrayOf_alike hZ.alike hAr.2.1) hAr.2.2 hin hat (g := (mkF m 8 #[.val (.ref ab), .val (.int q1)] [(.int q1), (.ref ab)])) rfl rfl (hb hby own_d5_8) t k) ?_
  show own_Go p.tables e below K (T25.setTop (mkF m 9 #[.val (.ref ab), .val (.int q1)] [(.int r)]))
  refine own_by (fun t k => XS.sipush X25.here hx rfl (hb hby own_d5_9) k) ?_
  show own_Go p.tables e below K (T25.setTop (mkF m 12 #[.val (.ref ab), .val (.int q1)] [(.int (255 : Int32)), (.int r)]))
  refine own_by (fun t k => XS.iand X25.here hx rfl (hb hby own_d5_12) rfl k) ?_
  show own_Go p.tables e below K (T25.setTop (mkF m 13 #[.val (.ref ab), .val (.int q1)] [(.int (r &&& (255 : Int32)))]))
  refine own_by (fun t k => XS.i2c X25.here hx rfl (hb hby own_d5_13) rfl k) ?_
  show own_Go p.tables e below K (T25.setTop (mkF m 14 #[.val (.ref ab), .val (.int q1)] [(.int ((r &&& (255 : Int32)).toUInt32.toUInt16.toUInt32.toInt32))]))
  exact own_retZ X25 hx (t := .char) hret (by simp) (hb hby own_d5_14) (hK (some (.int (nar .char ((r &&& (255 : Int32)).toUInt32.toUInt16.toUInt32.toInt32)))) X25 (fun h => by rw [hret] at h; cases h) (⟨⟨_, rfl⟩, N25, e25⟩) (by decide) (by decide))
theorem own_d4_0 : decode jdk_42_method_154_code 0 = .ok (.getstatic 38, 3) := by decide +kernel
theorem own_d4_3 : decode jdk_42_method_154_code 3 = .ok (.ifCond .eq 14, 3) := by decide +kernel
theorem own_d4_6 : decode jdk_42_method_154_code 6 = .ok (.aload_n 0, 1) := by decide +kernel
theorem own_d4_7 : decode jdk_42_method_154_code 7 = .ok (.getfield 15, 3) := by decide +kernel
theorem own_d4_10 : decode jdk_42_method_154_code 10 = .ok (.ifCond .ne 7, 3) := by decide +kernel
theorem own_d4_13 : decode jdk_42_method_154_code 13 = .ok (.iconst 1, 1) := by decide +kernel
theorem own_d4_14 : decode jdk_42_method_154_code 14 = .ok (.goto 4, 3) := by decide +kernel
theorem own_d4_18 : decode jdk_42_method_154_code 18 = .ok (.ireturn, 1) := by decide +kernel
theorem own_efT (m : MethodId) (a1 : Addr) : entryFrame m #[(.ref a1)] 1 = mkF m 0 #[.val (.ref a1)] [] := by first | (simp [entryFrame, mkF, argsToLocals, Value.category]; done) | rfl
def own_QT (Z : State) (a1 : Addr) (cz : Int32) (h0 : Heap) (n0 : Nat) (v : Option Value) (h : Heap) (L : List Loc) : Prop := v = some (.int (1 : Int32)) ∧ Fr n0 L ∧ h = h0
set_option maxRecDepth 65536 in
set_option maxHeartbeats 40000000 in
theorem own_rmT (l : Launch) (Z : State) (aw : Array Value) (hw : ∀ d ∈ tables_1, d.before aw Z = true) (ws : List Jvm.Cond) (a1 : Addr) (cz : Int32) (h0 : Heap) (n0 : Nat) (Z0 : n0 ≤ h0.size) (S0 : Sta Z h0 "java/lang/String" "COMPACT_STRINGS" "Z" (.int cz)) (P5 : ¬ cz = (0 : Int32)) (F0 : Fld Z h0 a1 "java/lang/String" "coder" "B" (.int 0)) :
    MetFree l (⟨"java/lang/String", "isLatin1", "()Z"⟩ : MethodName) (head1 (Jvm.Cond.code (⟨"java/lang/String", "isLatin1", "()Z"⟩ : MethodName) jdk_42_method_154_code 1 (some .boolean) :: ws) ({ frames := 0, cells := 0, slots := 0, locals := 0 } : Room)) (fun a U => a = #[(.ref a1)] ∧ Z.Warmed39 U.vm ∧ U.heap = h0) (fun _ _ _ _ _ => True) (fun _ U o U' => ∃ v L, o = .returned v ∧ own_QT Z a1 cz h0 n0 v U'.heap L ∧ FrameEnd U o U' L ({ frames := 0, cells := 0, slots := 0, locals := 0 } : Room).cells ({ frames := 0, cells := 0, slots := 0, locals := 0 } : Room).slots) := by
  refine own_met (Q := own_QT Z a1 cz h0 n0) (plainFor_of_name own_pn6) ?_
  intro p e s m below meth c s₁ K hx hby hml hown hnm hret hZ X0 e0 hK
  have hown : s.vm.findClass "java/lang/String" = some m.cls := hown
  have N0 := Fr.nil n0
  refine own_by (fun t k => castTop (own_efT m a1) k) ?_
  show own_Go p.tables e below K (s₁.setTop (mkF m 0 #[.val (.ref a1)] []))
  obtain ⟨T26, X26, e26, st26⟩ := getS2 X0 hx hZ hown (host := "") (Or.inl (hw _ (List.mem_of_getElem? (i := 40) rfl))) Via.refl e0 S0 (g := (mkF m 0 #[.val (.ref a1)] [])) rfl (hb hby own_d4_0)
  refine own_by st26 ?_
  show own_Go p.tables e below K (T26.setTop (mkF m 3 #[.val (.ref a1)] [(.int cz)]))
  have hc3 : ¬ (cz = (0 : Int32)) := P5
  refine own_by (fun t k => XS.ifNo X26.here hx rfl (hb hby own_d4_3) rfl ((if0 _ _).trans (feq hc3).1) k) ?_
  show own_Go p.tables e below K (T26.setTop (mkF m 6 #[.val (.ref a1)] []))
  refine own_by (fun t k => XS.aloadN X26.here hx rfl (hb hby own_d4_6) rfl rfl k) ?_
  show own_Go p.tables e below K (T26.setTop (mkF m 7 #[.val (.ref a1)] [(.ref a1)]))
  obtain ⟨T27, X27, e27, st27⟩ := getF X26 hx hZ hown (host := "") (Or.inl (hw _ (List.mem_of_getElem? (i := 41) rfl))) Via.refl e26 F0 (g := (mkF m 7 #[.val (.ref a1)] [(.ref a1)])) rfl rfl (hb hby own_d4_7)
  refine own_by st27 ?_
  show own_Go p.tables e below K (T27.setTop (mkF m 10 #[.val (.ref a1)] [(.int (0 : Int32))]))
  have hc10 : (0 : Int32) = (0 : Int32) := rfl
  refine own_by (fun t k => XS.ifNo X27.here hx rfl (hb hby own_d4_10) rfl ((if0 _ _).trans (teq hc10).2) k) ?_
  show own_Go p.tables e below K (T27.setTop (mkF m 13 #[.val (.ref a1)] []))
  refine own_by (fun t k => XS.iconst X27.here hx rfl (hb hby own_d4_13) k) ?_
  show own_Go p.tables e below K (T27.setTop (mkF m 14 #[.val (.ref a1)] [(.int (1 : Int32))]))
  refine own_by (fun t k => XS.goto X27.here hx rfl (pc0 := 14) (pc' := 18) rfl (hb hby own_d4_14) (by decide) (by decide) k) ?_
  show own_Go p.tables e below K (T27.setTop (mkF m 18 #[.val (.ref a1)] [(.int (1 : Int32))]))
  exact own_retZ X27 hx (t := .boolean) hret (by simp) (hb hby own_d4_18) (hK (some (.int (1 : Int32))) X27 (fun h => by rw [hret] at h; cases h) (⟨rfl, N0, e27⟩) (by decide) (by decide))
theorem own_pd2 : parseMethodDescriptor "()Z" = some ⟨[], some .boolean⟩ := by decide +kernel
theorem own_pd3 : parseMethodDescriptor "([BI)C" = some ⟨[(.array .byte), .int], some .char⟩ := by decide +kernel
theorem own_d3_0 : decode jdk_42_method_56_code 0 = .ok (.aload_n 0, 1) := by decide +kernel
theorem own_d3_1 : decode jdk_42_method_56_code 1 = .ok (.invokevirtual 492, 3) := by decide +kernel
theorem own_d3_4 : decode jdk_42_method_56_code 4 = .ok (.ifCond .eq 12, 3) := by decide +kernel
theorem own_d3_7 : decode jdk_42_method_56_code 7 = .ok (.aload_n 0, 1) := by decide +kernel
theorem own_d3_8 : decode jdk_42_method_56_code 8 = .ok (.getfield 9, 3) := by decide +kernel
theorem own_d3_11 : decode jdk_42_method_56_code 11 = .ok (.iload_n 1, 1) := by decide +kernel
theorem own_d3_12 : decode jdk_42_method_56_code 12 = .ok (.invokestatic 495, 3) := by decide +kernel
theorem own_d3_15 : decode jdk_42_method_56_code 15 = .ok (.ireturn, 1) := by decide +kernel
theorem own_efA (m : MethodId) (a1 : Addr) (q1 : Int32) : entryFrame m #[(.ref a1), (.int q1)] 2 = mkF m 0 #[.val (.ref a1), .val (.int q1)] [] := by first | (simp [entryFrame, mkF, argsToLocals, Value.category]; done) | rfl
def own_QA (Z : State) (a1 : Addr) (q1 : Int32) (ab : Addr) (kb : ClassId) (z : Int32) (vs : List Value) (G3 : Value) (cz : Int32) (h0 : Heap) (n0 : Nat) (v : Option Value) (h : Heap) (L : List Loc) : Prop := (∃ r : Int32, v = some (.int r)) ∧ Fr n0 L ∧ h = h0
set_option maxRecDepth 65536 in
set_option maxHeartbeats 40000000 in
theorem own_rmA (l : Launch) (Z : State) (aw : Array Value) (hw : ∀ d ∈ tables_1, d.before aw Z = true) (ws : List Jvm.Cond) (a1 : Addr) (q1 : Int32) (ab : Addr) (kb : ClassId) (z : Int32) (vs : List Value) (G3 : Value) (cz : Int32) (h0 : Heap) (n0 : Nat) (Z0 : n0 ≤ h0.size) (S0 : Sta Z h0 "java/lang/String" "COMPACT_STRINGS" "Z" (.int cz)) (P5 : ¬ cz = (0 : Int32)) (F0 : Fld Z h0 a1 "java/lang/String" "coder" "B" (.int 0)) (E0 : Exa Z h0 a1 "java/lang/String") (F1 : Fld Z h0 a1 "java/lang/String" "value" "[B" (.ref ab)) (hV : Arv Z h0 ab kb .byte z vs (.int 0)) (h1 : ¬ q1 < 0) (h2 : q1 < z) (S3 : Sta Z h0 "jdk/internal/util/Preconditions" "SIOOBE_FORMATTER" "Ljava/util/function/BiFunction;" G3) (r3 : G3.isRef = true) :
    MetFree l (⟨"java/lang/String", "charAt", "(I)C"⟩ : MethodName) (head1 (Jvm.Cond.code (⟨"java/lang/String", "charAt", "(I)C"⟩ : MethodName) jdk_42_method_56_code 2 (some .char) :: ws) ({ frames := 3, cells := 0, slots := 0, locals := 41 } : Room)) (fun a U => a = #[(.ref a1), (.int q1)] ∧ Z.Warmed39 U.vm ∧ U.heap = h0) (fun _ _ _ _ _ => True) (fun _ U o U' => ∃ v L, o = .returned v ∧ own_QA Z a1 q1 ab kb z vs G3 cz h0 n0 v U'.heap L ∧ FrameEnd U o U' L ({ frames := 3, cells := 0, slots := 0, locals := 41 } : Room).cells ({ frames := 3, cells := 0, slots := 0, locals := 41 } : Room).slots) := by
  refine own_met (Q := own_QA Z a1 q1 ab kb z vs G3 cz h0 n0) (plainFor_of_name own_pn6) ?_
  intro p e s m below meth c s₁ K hx hby hml hown hnm hret hZ X0 e0 hK
  have hown : s.vm.findClass "java/lang/String" = some m.cls := hown
  have N0 := Fr.nil n0
  refine own_by (fun t k => castTop (own_efA m a1 q1) k) ?_
  show own_Go p.tables e below K (s₁.setTop (mkF m 0 #[.val (.ref a1), .val (.int q1)] []))
  refine own_by (fun t k => XS.aloadN X0.here hx rfl (hb hby own_d3_0) rfl rfl k) ?_
  show own_Go p.tables e below K (s₁.setTop (mkF m 1 #[.val (.ref a1), .val (.int q1)] [(.ref a1)]))
  obtain ⟨cq28, kq28, q28a, q28b, q28c⟩ := isOf hZ e0 E0
  obtain ⟨_, _, ⟨T28, L28, k28, n28⟩, -, X28, ⟨Lc28, hQ28, l28, y28, z28⟩, st28⟩ := X0.virtualBack hx (y := (⟨"java/lang/String", "isLatin1", "()Z"⟩ : MethodName)) (z := (⟨"java/lang/String", "isLatin1", "()Z"⟩ : MethodName)) hown (mvT hZ (hw _ (List.mem_of_getElem? (i := 35) rfl))) (mvT hZ (hw _ (List.mem_of_getElem? (i := 36) rfl))) (notFace_of_selects (args := #[]) (mvT hZ (hw _ (List.mem_of_getElem? (i := 38) rfl)))) (mvT hZ (hw _ (List.mem_of_getElem? (i := 38) rfl))) (mvT hZ (hw _ (List.mem_of_getElem? (i := 37) rfl))) (by decide) (backOf (W := 0) (own_rmT l Z aw hw [] a1 cz h0 n0 Z0 S0 P5 F0) hZ (hw _ (List.mem_of_getElem? (i := 39) rfl)) (hw _ (List.mem_of_getElem? (i := 23) rfl)) (by decide) (by decide)) q28a q28c (g := (mkF m 1 #[.val (.ref a1), .val (.int q1)] [(.ref a1)])) rfl (by rw [hml]; rfl) (Steps.refl _) (argsL := []) (rest := []) (lenOf own_pd2 rfl) rfl (by show 2 * 0 + _ ≤ _; exact Nat.le_of_eq rfl) (hb hby own_d3_1) (fun _ _ => ⟨rfl, e0, (by decide : 0 + 0 ≤ _), (by decide : 0 + 0 ≤ _)⟩)
  dsimp only [Pt.U, Pt.locs, Pt.cells, Pt.slots] at X28 l28 y28 z28 st28 hQ28
  subst l28 y28 z28
  obtain ⟨rfl, N28q, e28⟩ := hQ28
  have N28 := Fr.app N0 N28q
  refine own_by (fun t k => st28.trans k) ?_
  show own_Go p.tables e below K (T28.setTop (mkF m 4 #[.val (.ref a1), .val (.int q1)] [(.int (1 : Int32))]))
  have hc4 : ¬ ((1 : Int32) = (0 : Int32)) := by decide
  refine own_by (fun t k => XS.ifNo X28.here hx rfl (hb hby own_d3_4) rfl ((if0 _ _).trans (feq hc4).1) k) ?_
  show own_Go p.tables e below K (T28.setTop (mkF m 7 #[.val (.ref a1), .val (.int q1)] []))
  refine own_by (fun t k => XS.aloadN X28.here hx rfl (hb hby own_d3_7) rfl rfl k) ?_
  show own_Go p.tables e below K (T28.setTop (mkF m 8 #[.val (.ref a1), .val (.int q1)] [(.ref a1)]))
  obtain ⟨T29, X29, e29, st29⟩ := getF X28 hx hZ hown (host := "") (Or.inl (hw _ (List.mem_of_getElem? (i := 42) rfl))) Via.refl e28 F1 (g := (mkF m 8 #[.val (.ref a1), .val (.int q1)] [(.ref a1)])) rfl rfl (hb hby own_d3_8)
  refine own_by st29 ?_
  show own_Go p.tables e below K (T29.setTop (mkF m 11 #[.val (.ref a1), .val (.int q1)] [(.ref ab)]))
  refine own_by (fun t k => XS.iloadN X29.here hx rfl (hb hby own_d3_11) rfl k) ?_
  show own_Go p.tables e below K (T29.setTop (mkF m 12 #[.val (.ref a1), .val (.int q1)] [(.int q1), (.ref ab)]))
  obtain ⟨_, _, ⟨T30, L30, k30, n30⟩, -, X30, ⟨Lc30, hQ30, l30, y30, z30⟩, st30⟩ := Jvm.LawKit.callS X29 hx (y := (⟨"java/lang/StringLatin1", "charAt", "([BI)C"⟩ : MethodName)) hown (mvT hZ (hw _ (List.mem_of_getElem? (i := 43) rfl))) (mvT hZ (hw _ (List.mem_of_getElem? (i := 44) rfl))) (mvT hZ (hw _ (List.mem_of_getElem? (i := 45) rfl))) (mvT hZ (hw _ (List.mem_of_getElem? (i := 46) rfl))) (by decide) (backOf (W := 0) (own_rmL l Z aw hw [] ab q1 kb z vs G3 h0 n0 Z0 hV h1 h2 S3 r3) hZ (hw _ (List.mem_of_getElem? (i := 46) rfl)) (hw _ (List.mem_of_getElem? (i := 45) rfl)) (by decide) (by decide)) (g := (mkF m 12 #[.val (.ref a1), .val (.int q1)] [(.int q1), (.ref ab)])) rfl (by rw [hml]; rfl) (argsL := [(.ref ab), (.int q1)]) (rest := []) (lenOf own_pd3 rfl) rfl (by show 2 * 0 + _ ≤ _; exact Nat.le_of_eq rfl) (hb hby own_d3_12) (fun _ _ => ⟨rfl, e29, (by decide : 0 + 0 ≤ _), (by decide : 0 + 0 ≤ _)⟩)
  dsimp only [Pt.U, Pt.locs, Pt.cells, Pt.slots] at X30 l30 y30 z30 st30 hQ30
  subst l30 y30 z30
  obtain ⟨⟨r30, rfl⟩, N30q, e30⟩ := hQ30
  have N30 := Fr.app N28 N30q
  refine own_by st30 ?_
  show own_Go p.tables e below K (T30.setTop (mkF m 15 #[.val (.ref a1), .val (.int q1)] [(.int r30)]))
  exact own_retZ X30 hx (t := .char) hret (by simp) (hb hby own_d3_15) (hK (some (.int (nar .char r30))) X30 (fun h => by rw [hret] at h; cases h) (⟨⟨_, rfl⟩, N30, e30⟩) (by decide) (by decide))
theorem own_pickR (q : Int32) (a0 a1 a2 a3 a4 a5 a6 a7 a8 a9 : Addr) : (own_pick q a0 a1 a2 a3 a4 a5 a6 a7 a8 a9).isRef = true := by
  unfold own_pick
  repeat' split
  all_goals rfl
theorem own_En.ext {Z : State} {h h' : Heap} {ar : Addr} {cl : Cell} {a0 a1 a2 a3 a4 a5 a6 a7 a8 a9 : Addr} (E : own_En Z h ar cl a0 a1 a2 a3 a4 a5 a6 a7 a8 a9) (X : Ext h h') : own_En Z h' ar cl a0 a1 a2 a3 a4 a5 a6 a7 a8 a9 := by
  obtain ⟨hAll, hAr, hlen, hi0, hF0, hi1, hF1, hi2, hF2, hi3, hF3, hi4, hF4, hi5, hF5, hi6, hF6, hi7, hF7, hi8, hF8, hi9, hF9⟩ := E
  exact ⟨hAll.ext X, hAr.ext X, hlen, hi0, hF0.ext X, hi1, hF1.ext X, hi2, hF2.ext X, hi3, hF3.ext X, hi4, hF4.ext X, hi5, hF5.ext X, hi6, hF6.ext X, hi7, hF7.ext X, hi8, hF8.ext X, hi9, hF9.ext X⟩
theorem own_pd4 : parseMethodDescriptor "(C)Lcom/example/minilingua/minilingua/lang/badkode/Operation;" = some ⟨[.char], some (.object "com/example/minilingua/minilingua/lang/badkode/Operation")⟩ := by decide +kernel
theorem own_pd5 : parseMethodDescriptor "(I)C" = some ⟨[.int], some .char⟩ := by decide +kernel
theorem own_ef0 (m : MethodId) (q1 q2 : Int32) : entryFrame m #[(.int q1), (.int q2)] maxLocals = mkF m 0 #[.val (.int q1), .val (.int q2), .unset] [] := by first | (simp [entryFrame, mkF, argsToLocals, Value.category, maxLocals]; done) | rfl
def own_Q0 (Z : State) (v : Option Value) (h : Heap) (L : List Loc) : Prop := v = some (.int (1 : Int32)) ∧ Fr Z.heap.size L
set_option maxRecDepth 65536 in
set_option maxHeartbeats 40000000 in
theorem own_rm0 (l : Launch) (Z : State) (aw : Array Value) (hw : ∀ d ∈ tables_1, d.before aw Z = true) (ws : List Jvm.Cond) (q1 : Int32) (q2 : Int32) (ar : Addr) (cl : Cell) (a0 : Addr) (a1 : Addr) (a2 : Addr) (a3 : Addr) (a4 : Addr) (a5 : Addr) (a6 : Addr) (a7 : Addr) (a8 : Addr) (a9 : Addr) (cz : Int32) (G3 : Value) (hE : own_En Z Z.heap ar cl a0 a1 a2 a3 a4 a5 a6 a7 a8 a9) (S0 : Sta Z Z.heap "com/example/minilingua/minilingua/lang/badkode/Operation" "MOVE" "Lcom/example/minilingua/minilingua/lang/badkode/Operation;" (.ref a0)) (S1 : Sta Z Z.heap "com/example/minilingua/minilingua/lang/badkode/Operation" "ADD" "Lcom/example/minilingua/minilingua/lang/badkode/Operation;" (.ref a1)) (S2 : Sta Z Z.heap "com/example/minilingua/minilingua/lang/badkode/Operation" "SUBTRACT" "Lcom/example/minilingua/minilingua/lang/badkode/Operation;" (.ref a2)) (S3 : Sta Z Z.heap "com/example/minilingua/minilingua/lang/badkode/Operation" "PUSH" "Lcom/example/minilingua/minilingua/lang/badkode/Operation;" (.ref a3)) (S4 : Sta Z Z.heap "com/example/minilingua/minilingua/lang/badkode/Operation" "PULL" "Lcom/example/minilingua/minilingua/lang/badkode/Operation;" (.ref a4)) (S5 : Sta Z Z.heap "com/example/minilingua/minilingua/lang/badkode/Operation" "WRITE_NUMBER" "Lcom/example/minilingua/minilingua/lang/badkode/Operation;" (.ref a5)) (S6 : Sta Z Z.heap "com/example/minilingua/minilingua/lang/badkode/Operation" "WRITE_BYTE" "Lcom/example/minilingua/minilingua/lang/badkode/Operation;" (.ref a6)) (S7 : Sta Z Z.heap "com/example/minilingua/minilingua/lang/badkode/Operation" "READ" "Lcom/example/minilingua/minilingua/lang/badkode/Operation;" (.ref a7)) (S8 : Sta Z Z.heap "com/example/minilingua/minilingua/lang/badkode/Operation" "LOOP" "Lcom/example/minilingua/minilingua/lang/badkode/Operation;" (.ref a8)) (S9 : Sta Z Z.heap "com/example/minilingua/minilingua/lang/badkode/Operation" "END_LOOP" "Lcom/example/minilingua/minilingua/lang/badkode/Operation;" (.ref a9)) (S0c : Sta Z Z.heap "java/lang/String" "COMPACT_STRINGS" "Z" (.int cz)) (P5 : ¬ cz = (0 : Int32)) (S3c : Sta Z Z.heap "jdk/internal/util/Preconditions" "SIOOBE_FORMATTER" "Ljava/util/function/BiFunction;" G3) (r3 : G3.isRef = true) (hheld : Jvm.Lit.constHeld Z "com/example/minilingua/minilingua/lang/badkode/OperationSpelledPinLaw" 40) (hcw : Jvm.Lit.compactW.before aw Z = true) :
    MetFree l x (head1 (Jvm.Cond.code x code maxLocals ret :: ws) room_1) (fun a U => a = #[(.int q1), (.int q2)] ∧ U = Z) (fun _ _ _ _ _ => True) (fun _ U o U' => ∃ v L, o = .returned v ∧ own_Q0 Z v U'.heap L ∧ ReturnedEndW U o U' L 2 44) := by
  refine own_metW (Q := own_Q0 Z) (plainFor_of_name own_pn2) ?_
  intro p e m below meth c s₁ K hx hby hml hown hnm hret X0 e0 hK
  have hZ := State.Warmed39.refl Z
  have N0 := Fr.nil Z.heap.size
  refine own_by (fun t k => castTop (own_ef0 m q1 q2) k) ?_
  show own_Go p.tables e below K (s₁.setTop (mkF m 0 #[.val (.int q1), .val (.int q2), .unset] []))
  refine own_by (fun t k => XS.iloadN X0.here hx rfl (hb hby at_0) rfl k) ?_
  show own_Go p.tables e below K (s₁.setTop (mkF m 1 #[.val (.int q1), .val (.int q2), .unset] [(.int q1)]))
  refine own_by (fun t k => XS.iconst X0.here hx rfl (hb hby at_1) k) ?_
  show own_Go p.tables e below K (s₁.setTop (mkF m 2 #[.val (.int q1), .val (.int q2), .unset] [(.int (1 : Int32)), (.int q1)]))
  refine own_by (fun t k => XS.iand X0.here hx rfl (hb hby at_2) rfl k) ?_
  show own_Go p.tables e below K (s₁.setTop (mkF m 3 #[.val (.int q1), .val (.int q2), .unset] [(.int (q1 &&& (1 : Int32)))]))
  by_cases hc3 : (q1 &&& (1 : Int32)) = (0 : Int32)
  · refine own_by (fun t k => XS.ifYes X0.here hx rfl (pc0 := 3) (pc' := 21) rfl (hb hby at_3) rfl ((if0 _ _).trans (teq hc3).1) (by decide) (by decide) k) ?_
    show own_Go p.tables e below K (s₁.setTop (mkF m 21 #[.val (.int q1), .val (.int q2), .unset] []))
    refine own_by (fun t k => XS.iloadN X0.here hx rfl (hb hby at_21) rfl k) ?_
    show own_Go p.tables e below K (s₁.setTop (mkF m 22 #[.val (.int q1), .val (.int q2), .unset] [(.int q2)]))
    refine own_by (fun t k => XS.i2c X0.here hx rfl (hb hby at_22) rfl k) ?_
    show own_Go p.tables e below K (s₁.setTop (mkF m 23 #[.val (.int q1), .val (.int q2), .unset] [(.int (q2.toUInt32.toUInt16.toUInt32.toInt32))]))
    refine own_by (fun t k => XS.istoreN X0.here hx rfl (hb hby at_23) rfl (l' := #[.val (.int q1), .val (.int q2), .val (.int (q2.toUInt32.toUInt16.toUInt32.toInt32))]) rfl k) ?_
    show own_Go p.tables e below K (s₁.setTop (mkF m 24 #[.val (.int q1), .val (.int q2), .val (.int (q2.toUInt32.toUInt16.toUInt32.toInt32))] []))
    refine own_by (fun t k => XS.iloadN X0.here hx rfl (hb hby at_24) rfl k) ?_
    show own_Go p.tables e below K (s₁.setTop (mkF m 25 #[.val (.int q1), .val (.int q2), .val (.int (q2.toUInt32.toUInt16.toUInt32.toInt32))] [(.int (q2.toUInt32.toUInt16.toUInt32.toInt32))]))
    obtain ⟨_, _, ⟨T31, L31, k31, n31⟩, -, X31, ⟨Lc31, hQ31, l31, y31, z31⟩, st31⟩ := Jvm.LawKit.callS X0 hx (y := (⟨"com/example/minilingua/minilingua/lang/badkode/Operation", "spelled", "(C)Lcom/example/minilingua/minilingua/lang/badkode/Operation;"⟩ : MethodName)) hown (mvT hZ (hw _ (List.mem_of_getElem? (i := 0) rfl))) (mvT hZ (hw _ (List.mem_of_getElem? (i := 1) rfl))) (mvT hZ (hw _ (List.mem_of_getElem? (i := 2) rfl))) (mvT hZ (hw _ (List.mem_of_getElem? (i := 3) rfl))) (by decide) (backOf (W := 0) (own_rmS l Z aw hw [] (q2.toUInt32.toUInt16.toUInt32.toInt32) ar cl a0 a1 a2 a3 a4 a5 a6 a7 a8 a9 Z.heap Z.heap.size (Nat.le_refl _) hE) hZ (hw _ (List.mem_of_getElem? (i := 3) rfl)) (hw _ (List.mem_of_getElem? (i := 2) rfl)) (by decide) (by decide)) (g := (mkF m 25 #[.val (.int q1), .val (.int q2), .val (.int (q2.toUInt32.toUInt16.toUInt32.toInt32))] [(.int (q2.toUInt32.toUInt16.toUInt32.toInt32))])) rfl (by rw [hml]; rfl) (argsL := [(.int (q2.toUInt32.toUInt16.toUInt32.toInt32))]) (rest := []) (lenOf own_pd4 rfl) rfl (by show 2 * 0 + _ ≤ _; exact Nat.le_of_eq rfl) (hb hby at_25) (fun _ _ => ⟨rfl, e0, (by decide : 0 + 0 ≤ _), (by decide : 0 + 0 ≤ _)⟩)
    dsimp only [Pt.U, Pt.locs, Pt.cells, Pt.slots] at X31 l31 y31 z31 st31 hQ31
    subst l31 y31 z31
    obtain ⟨rfl, N31q, e31⟩ := hQ31
    have N31 := Fr.app N0 N31q
    refine own_by st31 ?_
    rcases ref_cases (own_pickR (q2.toUInt32.toUInt16.toUInt32.toInt32) a0 a1 a2 a3 a4 a5 a6 a7 a8 a9) with hpk | ⟨wpk, hpk⟩
    · rw [hpk]
      show own_Go p.tables e below K (T31.setTop (mkF m 28 #[.val (.int q1), .val (.int q2), .val (.int (q2.toUInt32.toUInt16.toUInt32.toInt32))] [.null]))
      refine own_by (fun t k => XS.iloadN X31.here hx rfl (hb hby at_28) rfl k) ?_
      show own_Go p.tables e below K (T31.setTop (mkF m 29 #[.val (.int q1), .val (.int q2), .val (.int (q2.toUInt32.toUInt16.toUInt32.toInt32))] [(.int (q2.toUInt32.toUInt16.toUInt32.toInt32)), .null]))
      obtain ⟨_, _, ⟨T32, L32, k32, n32⟩, -, X32, ⟨Lc32, hQ32, l32, y32, z32⟩, st32⟩ := Jvm.LawKit.callS X31 hx (y := (⟨"com/example/minilingua/minilingua/lang/badkode/OperationSpelledPinLaw", "expected", "(C)Lcom/example/minilingua/minilingua/lang/badkode/Operation;"⟩ : MethodName)) hown (mvT hZ (hw _ (List.mem_of_getElem? (i := 18) rfl))) (mvT hZ (hw _ (List.mem_of_getElem? (i := 19) rfl))) (mvT hZ (hw _ (List.mem_of_getElem? (i := 20) rfl))) (mvT hZ (hw _ (List.mem_of_getElem? (i := 21) rfl))) (by decide) (backOf (W := 1) (own_rmX l Z aw hw [] (q2.toUInt32.toUInt16.toUInt32.toInt32) a0 a1 a2 a3 a4 a5 a6 a7 a8 a9 Z.heap Z.heap.size (Nat.le_refl _) S0 S1 S2 S3 S4 S5 S6 S7 S8 S9) hZ (hw _ (List.mem_of_getElem? (i := 21) rfl)) (hw _ (List.mem_of_getElem? (i := 20) rfl)) (by decide) (by decide)) (g := (mkF m 29 #[.val (.int q1), .val (.int q2), .val (.int (q2.toUInt32.toUInt16.toUInt32.toInt32))] [(.int (q2.toUInt32.toUInt16.toUInt32.toInt32)), .null])) rfl (by rw [hml]; rfl) (argsL := [(.int (q2.toUInt32.toUInt16.toUInt32.toInt32))]) (rest := [.null]) (lenOf own_pd4 rfl) rfl (by show 2 * 0 + _ ≤ _; exact Nat.le_of_eq rfl) (hb hby at_29) (fun _ _ => ⟨rfl, e31, (by decide : 0 + 0 ≤ _), (by decide : 0 + 0 ≤ _)⟩)
      dsimp only [Pt.U, Pt.locs, Pt.cells, Pt.slots] at X32 l32 y32 z32 st32 hQ32
      subst l32 y32 z32
      obtain ⟨rfl, N32q, e32⟩ := hQ32
      have N32 := Fr.app N31 N32q
      refine own_by st32 ?_
      rw [hpk]
      show own_Go p.tables e below K (T32.setTop (mkF m 32 #[.val (.int q1), .val (.int q2), .val (.int (q2.toUInt32.toUInt16.toUInt32.toInt32))] [.null, .null]))
      refine own_by (fun t k => Jvm.RoadKit.acmp (g := (mkF m 32 #[.val (.int q1), .val (.int q2), .val (.int (q2.toUInt32.toUInt16.toUInt32.toInt32))] [.null, .null])) X32 hx rfl rfl rfl (pc0 := 32) (pc' := 35) (same := true) rfl (hb hby at_32) rfl (decide_eq_true rfl) (by decide) (by decide) k) ?_
      show own_Go p.tables e below K (T32.setTop (mkF m 35 #[.val (.int q1), .val (.int q2), .val (.int (q2.toUInt32.toUInt16.toUInt32.toInt32))] []))
      refine own_by (fun t k => XS.iconst X32.here hx rfl (hb hby at_35) k) ?_
      show own_Go p.tables e below K (T32.setTop (mkF m 36 #[.val (.int q1), .val (.int q2), .val (.int (q2.toUInt32.toUInt16.toUInt32.toInt32))] [(.int (1 : Int32))]))
      refine own_by (fun t k => XS.goto X32.here hx rfl (pc0 := 36) (pc' := 40) rfl (hb hby at_36) (by decide) (by decide) k) ?_
      show own_Go p.tables e below K (T32.setTop (mkF m 40 #[.val (.int q1), .val (.int q2), .val (.int (q2.toUInt32.toUInt16.toUInt32.toInt32))] [(.int (1 : Int32))]))
      exact own_retZ X32 hx (t := .boolean) hret (by simp) (hb hby at_40) (hK (some (.int (1 : Int32))) (vm1 := Z.vm) X32 ((State.WarmedH.refl Z).since 0) (Nat.zero_le _) (fun h => by rw [hret] at h; cases h) ⟨rfl, N32⟩ (by decide) (by decide))
    · rw [hpk]
      show own_Go p.tables e below K (T31.setTop (mkF m 28 #[.val (.int q1), .val (.int q2), .val (.int (q2.toUInt32.toUInt16.toUInt32.toInt32))] [(.ref wpk)]))
      refine own_by (fun t k => XS.iloadN X31.here hx rfl (hb hby at_28) rfl k) ?_
      show own_Go p.tables e below K (T31.setTop (mkF m 29 #[.val (.int q1), .val (.int q2), .val (.int (q2.toUInt32.toUInt16.toUInt32.toInt32))] [(.int (q2.toUInt32.toUInt16.toUInt32.toInt32)), (.ref wpk)]))
      obtain ⟨_, _, ⟨T33, L33, k33, n33⟩, -, X33, ⟨Lc33, hQ33, l33, y33, z33⟩, st33⟩ := Jvm.LawKit.callS X31 hx (y := (⟨"com/example/minilingua/minilingua/lang/badkode/OperationSpelledPinLaw", "expected", "(C)Lcom/example/minilingua/minilingua/lang/badkode/Operation;"⟩ : MethodName)) hown (mvT hZ (hw _ (List.mem_of_getElem? (i := 18) rfl))) (mvT hZ (hw _ (List.mem_of_getElem? (i := 19) rfl))) (mvT hZ (hw _ (List.mem_of_getElem? (i := 20) rfl))) (mvT hZ (hw _ (List.mem_of_getElem? (i := 21) rfl))) (by decide) (backOf (W := 1) (own_rmX l Z aw hw [] (q2.toUInt32.toUInt16.toUInt32.toInt32) a0 a1 a2 a3 a4 a5 a6 a7 a8 a9 Z.heap Z.heap.size (Nat.le_refl _) S0 S1 S2 S3 S4 S5 S6 S7 S8 S9) hZ (hw _ (List.mem_of_getElem? (i := 21) rfl)) (hw _ (List.mem_of_getElem? (i := 20) rfl)) (by decide) (by decide)) (g := (mkF m 29 #[.val (.int q1), .val (.int q2), .val (.int (q2.toUInt32.toUInt16.toUInt32.toInt32))] [(.int (q2.toUInt32.toUInt16.toUInt32.toInt32)), (.ref wpk)])) rfl (by rw [hml]; rfl) (argsL := [(.int (q2.toUInt32.toUInt16.toUInt32.toInt32))]) (rest := [(.ref wpk)]) (lenOf own_pd4 rfl) rfl (by show 2 * 0 + _ ≤ _; exact Nat.le_of_eq rfl) (hb hby at_29) (fun _ _ => ⟨rfl, e31, (by decide : 0 + 0 ≤ _), (by decide : 0 + 0 ≤ _)⟩)
      dsimp only [Pt.U, Pt.locs, Pt.cells, Pt.slots] at X33 l33 y33 z33 st33 hQ33
      subst l33 y33 z33
      obtain ⟨rfl, N33q, e33⟩ := hQ33
      have N33 := Fr.app N31 N33q
      refine own_by st33 ?_
      rw [hpk]
      show own_Go p.tables e below K (T33.setTop (mkF m 32 #[.val (.int q1), .val (.int q2), .val (.int (q2.toUInt32.toUInt16.toUInt32.toInt32))] [(.ref wpk), (.ref wpk)]))
      refine own_by (fun t k => Jvm.RoadKit.acmp (g := (mkF m 32 #[.val (.int q1), .val (.int q2), .val (.int (q2.toUInt32.toUInt16.toUInt32.toInt32))] [(.ref wpk), (.ref wpk)])) X33 hx rfl rfl rfl (pc0 := 32) (pc' := 35) (same := true) rfl (hb hby at_32) rfl (decide_eq_true rfl) (by decide) (by decide) k) ?_
      show own_Go p.tables e below K (T33.setTop (mkF m 35 #[.val (.int q1), .val (.int q2), .val (.int (q2.toUInt32.toUInt16.toUInt32.toInt32))] []))
      refine own_by (fun t k => XS.iconst X33.here hx rfl (hb hby at_35) k) ?_
      show own_Go p.tables e below K (T33.setTop (mkF m 36 #[.val (.int q1), .val (.int q2), .val (.int (q2.toUInt32.toUInt16.toUInt32.toInt32))] [(.int (1 : Int32))]))
      refine own_by (fun t k => XS.goto X33.here hx rfl (pc0 := 36) (pc' := 40) rfl (hb hby at_36) (by decide) (by decide) k) ?_
      show own_Go p.tables e below K (T33.setTop (mkF m 40 #[.val (.int q1), .val (.int q2), .val (.int (q2.toUInt32.toUInt16.toUInt32.toInt32))] [(.int (1 : Int32))]))
      exact own_retZ X33 hx (t := .boolean) hret (by simp) (hb hby at_40) (hK (some (.int (1 : Int32))) (vm1 := Z.vm) X33 ((State.WarmedH.refl Z).since 0) (Nat.zero_le _) (fun h => by rw [hret] at h; cases h) ⟨rfl, N33⟩ (by decide) (by decide))
  · refine own_by (fun t k => XS.ifNo X0.here hx rfl (hb hby at_3) rfl ((if0 _ _).trans (feq hc3).1) k) ?_
    show own_Go p.tables e below K (s₁.setTop (mkF m 6 #[.val (.int q1), .val (.int q2), .unset] []))
    obtain ⟨sa, T', h', k1, ab, kb, X', e', Ex', hS', hk1, hZ, hown, EA, FC, FV, hV, -, -, -, st'⟩ := ldcSV (s := Z) (vm0 := Z.vm) (Ts := []) X0 hx hZ hown (hw _ (List.mem_of_getElem? (i := 22) rfl)) (fun d hd => hw d ((by decide +kernel : ∀ d ∈ Bundle.stringAtoms, d ∈ tables_1) d hd)) e0 (k0 := 0) ((State.WarmedH.refl Z).since 0) (Nat.zero_le _) (Fr.nil _) (fun _ _ q => q) IB.start (by simp) hheld hcw (vs := [Value.int 43, Value.int 45, Value.int 41, Value.int 40, Value.int 39, Value.int 34, Value.int 63, Value.int 123, Value.int 125, Value.int 62]) (z := 10) (by decide +kernel) (by decide) (by decide) (g := (mkF m 6 #[.val (.int q1), .val (.int q2), .unset] [])) rfl (hb hby at_6) (n := 40) (by decide +kernel) (by decide) (by decide) (by decide)
    refine own_by st' ?_
    have hE := own_En.ext hE Ex'
    have S0 := S0.ext Ex'
    have S1 := S1.ext Ex'
    have S2 := S2.ext Ex'
    have S3 := S3.ext Ex'
    have S4 := S4.ext Ex'
    have S5 := S5.ext Ex'
    have S6 := S6.ext Ex'
    have S7 := S7.ext Ex'
    have S8 := S8.ext Ex'
    have S9 := S9.ext Ex'
    have S0c := S0c.ext Ex'
    have S3c := S3c.ext Ex'
    have Z1 := Ex'.1
    show own_Go p.tables e below K (T'.setTop (mkF m 8 #[.val (.int q1), .val (.int q2), .unset] [(.ref sa)]))
    refine own_by (fun t k => XS.iloadN X'.here hx rfl (hb hby at_8) rfl k) ?_
    show own_Go p.tables e below K (T'.setTop (mkF m 9 #[.val (.int q1), .val (.int q2), .unset] [(.int q1), (.ref sa)]))
    refine own_by (fun t k => XS.iconst X'.here hx rfl (hb hby at_9) k) ?_
    show own_Go p.tables e below K (T'.setTop (mkF m 10 #[.val (.int q1), .val (.int q2), .unset] [(.int (1 : Int32)), (.int q1), (.ref sa)]))
    refine own_by (fun t k => XS.iushr X'.here hx rfl (hb hby at_10) rfl k) ?_
    show own_Go p.tables e below K (T'.setTop (mkF m 11 #[.val (.int q1), .val (.int q2), .unset] [(.int ((q1.toUInt32 >>> ((1 : Int32) &&& 31).toUInt32).toInt32)), (.ref sa)]))
    refine own_by (fun t k => XS.bipush X'.here hx rfl (hb hby at_11) k) ?_
    show own_Go p.tables e below K (T'.setTop (mkF m 13 #[.val (.int q1), .val (.int q2), .unset] [(.int (10 : Int32)), (.int ((q1.toUInt32 >>> ((1 : Int32) &&& 31).toUInt32).toInt32)), (.ref sa)]))
    refine own_by (fun t k => iremM X' hx rfl (hb hby at_13) rfl (by decide) k) ?_
    show own_Go p.tables e below K (T'.setTop (mkF m 14 #[.val (.int q1), .val (.int q2), .unset] [(.int (((q1.toUInt32 >>> ((1 : Int32) &&& 31).toUInt32).toInt32) % (10 : Int32))), (.ref sa)]))
    obtain ⟨cq34, kq34, q34a, q34b, q34c⟩ := isOf hZ e' EA
    obtain ⟨_, _, ⟨T34, L34, k34, n34⟩, -, X34, ⟨Lc34, hQ34, l34, y34, z34⟩, st34⟩ := X'.virtualBack hx (y := (⟨"java/lang/String", "charAt", "(I)C"⟩ : MethodName)) (z := (⟨"java/lang/String", "charAt", "(I)C"⟩ : MethodName)) hown (mvT hZ (hw _ (List.mem_of_getElem? (i := 30) rfl))) (mvT hZ (hw _ (List.mem_of_getElem? (i := 31) rfl))) (notFace_of_selects (args := #[]) (mvT hZ (hw _ (List.mem_of_getElem? (i := 33) rfl)))) (mvT hZ (hw _ (List.mem_of_getElem? (i := 33) rfl))) (mvT hZ (hw _ (List.mem_of_getElem? (i := 32) rfl))) (by decide) (backOf (W := 0) (own_rmA l Z aw hw [] sa (((q1.toUInt32 >>> ((1 : Int32) &&& 31).toUInt32).toInt32) % (10 : Int32)) ab kb 10 _ G3 cz h' Z.heap.size Z1 S0c P5 FC EA FV hV (own_rem q1).1 (own_rem q1).2 S3c r3) hZ (hw _ (List.mem_of_getElem? (i := 34) rfl)) (hw _ (List.mem_of_getElem? (i := 23) rfl)) (by decide) (by decide)) q34a q34c (g := (mkF m 14 #[.val (.int q1), .val (.int q2), .unset] [(.int (((q1.toUInt32 >>> ((1 : Int32) &&& 31).toUInt32).toInt32) % (10 : Int32))), (.ref sa)])) rfl (by rw [hml]; rfl) (Steps.refl _) (argsL := [(.int (((q1.toUInt32 >>> ((1 : Int32) &&& 31).toUInt32).toInt32) % (10 : Int32)))]) (rest := []) (lenOf own_pd5 rfl) rfl (by show 2 * 0 + _ ≤ _; exact Nat.le_of_eq rfl) (hb hby at_14) (fun _ _ => ⟨rfl, e', (by decide : 2 + 0 ≤ _), (by decide : 44 + 0 ≤ _)⟩)
    dsimp only [Pt.U, Pt.locs, Pt.cells, Pt.slots] at X34 l34 y34 z34 st34 hQ34
    subst l34 y34 z34
    obtain ⟨⟨r34, rfl⟩, N34q, e34⟩ := hQ34
    have N34 := Fr.app N0 N34q
    refine own_by (fun t k => st34.trans k) ?_
    show own_Go p.tables e below K (T34.setTop (mkF m 17 #[.val (.int q1), .val (.int q2), .unset] [(.int r34)]))
    refine own_by (fun t k => XS.istoreN X34.here hx rfl (hb hby at_17) rfl (l' := #[.val (.int q1), .val (.int q2), .val (.int r34)]) rfl k) ?_
    show own_Go p.tables e below K (T34.setTop (mkF m 18 #[.val (.int q1), .val (.int q2), .val (.int r34)] []))
    refine own_by (fun t k => XS.goto X34.here hx rfl (pc0 := 18) (pc' := 24) rfl (hb hby at_18) (by decide) (by decide) k) ?_
    show own_Go p.tables e below K (T34.setTop (mkF m 24 #[.val (.int q1), .val (.int q2), .val (.int r34)] []))
    refine own_by (fun t k => XS.iloadN X34.here hx rfl (hb hby at_24) rfl k) ?_
    show own_Go p.tables e below K (T34.setTop (mkF m 25 #[.val (.int q1), .val (.int q2), .val (.int r34)] [(.int r34)]))
    obtain ⟨_, _, ⟨T35, L35, k35, n35⟩, -, X35, ⟨Lc35, hQ35, l35, y35, z35⟩, st35⟩ := Jvm.LawKit.callS X34 hx (y := (⟨"com/example/minilingua/minilingua/lang/badkode/Operation", "spelled", "(C)Lcom/example/minilingua/minilingua/lang/badkode/Operation;"⟩ : MethodName)) hown (mvT hZ (hw _ (List.mem_of_getElem? (i := 0) rfl))) (mvT hZ (hw _ (List.mem_of_getElem? (i := 1) rfl))) (mvT hZ (hw _ (List.mem_of_getElem? (i := 2) rfl))) (mvT hZ (hw _ (List.mem_of_getElem? (i := 3) rfl))) (by decide) (backOf (W := 0) (own_rmS l Z aw hw [] r34 ar cl a0 a1 a2 a3 a4 a5 a6 a7 a8 a9 h' Z.heap.size Z1 hE) hZ (hw _ (List.mem_of_getElem? (i := 3) rfl)) (hw _ (List.mem_of_getElem? (i := 2) rfl)) (by decide) (by decide)) (g := (mkF m 25 #[.val (.int q1), .val (.int q2), .val (.int r34)] [(.int r34)])) rfl (by rw [hml]; rfl) (argsL := [(.int r34)]) (rest := []) (lenOf own_pd4 rfl) rfl (by show 2 * 0 + _ ≤ _; exact Nat.le_of_eq rfl) (hb hby at_25) (fun _ _ => ⟨rfl, e34, (by decide : 2 + 0 ≤ _), (by decide : 44 + 0 ≤ _)⟩)
    dsimp only [Pt.U, Pt.locs, Pt.cells, Pt.slots] at X35 l35 y35 z35 st35 hQ35
    subst l35 y35 z35
    obtain ⟨rfl, N35q, e35⟩ := hQ35
    have N35 := Fr.app N34 N35q
    refine own_by st35 ?_
    rcases ref_cases (own_pickR r34 a0 a1 a2 a3 a4 a5 a6 a7 a8 a9) with hpk | ⟨wpk, hpk⟩
    · rw [hpk]
      show own_Go p.tables e below K (T35.setTop (mkF m 28 #[.val (.int q1), .val (.int q2), .val (.int r34)] [.null]))
      refine own_by (fun t k => XS.iloadN X35.here hx rfl (hb hby at_28) rfl k) ?_
      show own_Go p.tables e below K (T35.setTop (mkF m 29 #[.val (.int q1), .val (.int q2), .val (.int r34)] [(.int r34), .null]))
      obtain ⟨_, _, ⟨T36, L36, k36, n36⟩, -, X36, ⟨Lc36, hQ36, l36, y36, z36⟩, st36⟩ := Jvm.LawKit.callS X35 hx (y := (⟨"com/example/minilingua/minilingua/lang/badkode/OperationSpelledPinLaw", "expected", "(C)Lcom/example/minilingua/minilingua/lang/badkode/Operation;"⟩ : MethodName)) hown (mvT hZ (hw _ (List.mem_of_getElem? (i := 18) rfl))) (mvT hZ (hw _ (List.mem_of_getElem? (i := 19) rfl))) (mvT hZ (hw _ (List.mem_of_getElem? (i := 20) rfl))) (mvT hZ (hw _ (List.mem_of_getElem? (i := 21) rfl))) (by decide) (backOf (W := 1) (own_rmX l Z aw hw [] r34 a0 a1 a2 a3 a4 a5 a6 a7 a8 a9 h' Z.heap.size Z1 S0 S1 S2 S3 S4 S5 S6 S7 S8 S9) hZ (hw _ (List.mem_of_getElem? (i := 21) rfl)) (hw _ (List.mem_of_getElem? (i := 20) rfl)) (by decide) (by decide)) (g := (mkF m 29 #[.val (.int q1), .val (.int q2), .val (.int r34)] [(.int r34), .null])) rfl (by rw [hml]; rfl) (argsL := [(.int r34)]) (rest := [.null]) (lenOf own_pd4 rfl) rfl (by show 2 * 0 + _ ≤ _; exact Nat.le_of_eq rfl) (hb hby at_29) (fun _ _ => ⟨rfl, e35, (by decide : 2 + 0 ≤ _), (by decide : 44 + 0 ≤ _)⟩)
      dsimp only [Pt.U, Pt.locs, Pt.cells, Pt.slots] at X36 l36 y36 z36 st36 hQ36
      subst l36 y36 z36
      obtain ⟨rfl, N36q, e36⟩ := hQ36
      have N36 := Fr.app N35 N36q
      refine own_by st36 ?_
      rw [hpk]
      show own_Go p.tables e below K (T36.setTop (mkF m 32 #[.val (.int q1), .val (.int q2), .val (.int r34)] [.null, .null]))
      refine own_by (fun t k => Jvm.RoadKit.acmp (g := (mkF m 32 #[.val (.int q1), .val (.int q2), .val (.int r34)] [.null, .null])) X36 hx rfl rfl rfl (pc0 := 32) (pc' := 35) (same := true) rfl (hb hby at_32) rfl (decide_eq_true rfl) (by decide) (by decide) k) ?_
      show own_Go p.tables e below K (T36.setTop (mkF m 35 #[.val (.int q1), .val (.int q2), .val (.int r34)] []))
      refine own_by (fun t k => XS.iconst X36.here hx rfl (hb hby at_35) k) ?_
      show own_Go p.tables e below K (T36.setTop (mkF m 36 #[.val (.int q1), .val (.int q2), .val (.int r34)] [(.int (1 : Int32))]))
      refine own_by (fun t k => XS.goto X36.here hx rfl (pc0 := 36) (pc' := 40) rfl (hb hby at_36) (by decide) (by decide) k) ?_
      show own_Go p.tables e below K (T36.setTop (mkF m 40 #[.val (.int q1), .val (.int q2), .val (.int r34)] [(.int (1 : Int32))]))
      exact own_retZ X36 hx (t := .boolean) hret (by simp) (hb hby at_40) (hK (some (.int (1 : Int32))) X36 hS' (by rw [e36]; exact hk1) (fun h => by rw [hret] at h; cases h) ⟨rfl, N36⟩ (by decide) (by decide))
    · rw [hpk]
      show own_Go p.tables e below K (T35.setTop (mkF m 28 #[.val (.int q1), .val (.int q2), .val (.int r34)] [(.ref wpk)]))
      refine own_by (fun t k => XS.iloadN X35.here hx rfl (hb hby at_28) rfl k) ?_
      show own_Go p.tables e below K (T35.setTop (mkF m 29 #[.val (.int q1), .val (.int q2), .val (.int r34)] [(.int r34), (.ref wpk)]))
      obtain ⟨_, _, ⟨T37, L37, k37, n37⟩, -, X37, ⟨Lc37, hQ37, l37, y37, z37⟩, st37⟩ := Jvm.LawKit.callS X35 hx (y := (⟨"com/example/minilingua/minilingua/lang/badkode/OperationSpelledPinLaw", "expected", "(C)Lcom/example/minilingua/minilingua/lang/badkode/Operation;"⟩ : MethodName)) hown (mvT hZ (hw _ (List.mem_of_getElem? (i := 18) rfl))) (mvT hZ (hw _ (List.mem_of_getElem? (i := 19) rfl))) (mvT hZ (hw _ (List.mem_of_getElem? (i := 20) rfl))) (mvT hZ (hw _ (List.mem_of_getElem? (i := 21) rfl))) (by decide) (backOf (W := 1) (own_rmX l Z aw hw [] r34 a0 a1 a2 a3 a4 a5 a6 a7 a8 a9 h' Z.heap.size Z1 S0 S1 S2 S3 S4 S5 S6 S7 S8 S9) hZ (hw _ (List.mem_of_getElem? (i := 21) rfl)) (hw _ (List.mem_of_getElem? (i := 20) rfl)) (by decide) (by decide)) (g := (mkF m 29 #[.val (.int q1), .val (.int q2), .val (.int r34)] [(.int r34), (.ref wpk)])) rfl (by rw [hml]; rfl) (argsL := [(.int r34)]) (rest := [(.ref wpk)]) (lenOf own_pd4 rfl) rfl (by show 2 * 0 + _ ≤ _; exact Nat.le_of_eq rfl) (hb hby at_29) (fun _ _ => ⟨rfl, e35, (by decide : 2 + 0 ≤ _), (by decide : 44 + 0 ≤ _)⟩)
      dsimp only [Pt.U, Pt.locs, Pt.cells, Pt.slots] at X37 l37 y37 z37 st37 hQ37
      subst l37 y37 z37
      obtain ⟨rfl, N37q, e37⟩ := hQ37
      have N37 := Fr.app N35 N37q
      refine own_by st37 ?_
      rw [hpk]
      show own_Go p.tables e below K (T37.setTop (mkF m 32 #[.val (.int q1), .val (.int q2), .val (.int r34)] [(.ref wpk), (.ref wpk)]))
      refine own_by (fun t k => Jvm.RoadKit.acmp (g := (mkF m 32 #[.val (.int q1), .val (.int q2), .val (.int r34)] [(.ref wpk), (.ref wpk)])) X37 hx rfl rfl rfl (pc0 := 32) (pc' := 35) (same := true) rfl (hb hby at_32) rfl (decide_eq_true rfl) (by decide) (by decide) k) ?_
      show own_Go p.tables e below K (T37.setTop (mkF m 35 #[.val (.int q1), .val (.int q2), .val (.int r34)] []))
      refine own_by (fun t k => XS.iconst X37.here hx rfl (hb hby at_35) k) ?_
      show own_Go p.tables e below K (T37.setTop (mkF m 36 #[.val (.int q1), .val (.int q2), .val (.int r34)] [(.int (1 : Int32))]))
      refine own_by (fun t k => XS.goto X37.here hx rfl (pc0 := 36) (pc' := 40) rfl (hb hby at_36) (by decide) (by decide) k) ?_
      show own_Go p.tables e below K (T37.setTop (mkF m 40 #[.val (.int q1), .val (.int q2), .val (.int r34)] [(.int (1 : Int32))]))
      exact own_retZ X37 hx (t := .boolean) hret (by simp) (hb hby at_40) (hK (some (.int (1 : Int32))) X37 hS' (by rw [e37]; exact hk1) (fun h => by rw [hret] at h; cases h) ⟨rfl, N37⟩ (by decide) (by decide))
set_option maxRecDepth 65536 in
set_option maxHeartbeats 40000000 in
theorem own_comes {Post : Tables → Env → Array Value → State → Outcome → State → Prop} (hpost : ∀ tb e args s v u, (limb_1_1.after args s (.returned v) u = true ∧ limb_1_2.after args s (.returned v) u = true ∧ True) → ReturnedEndW s (.returned v) u (Jvm.fieldLocs frame_1_writes args s ++ Jvm.arrayLocs frame_1_arrays args s ++ Jvm.staticLocs frame_1_statics s) 8 1088 → Post tb e args s (.returned v) u) :
    ArmFor flags0 classFile x code maxLocals ret World_1 tables_1 room_1 Calls_1 rest_1 Pre_1 Post := by
  intro l hfl _ _ p e ha hc hk s m args below hf hA hF happ hP
  obtain ⟨hcalls, hrest, hpre⟩ := hP
  obtain ⟨-, -, -, hnamed, -, -, -, hat⟩ := (Spec.applies_iff hf).mp happ
  obtain ⟨hg, hn⟩ := and_e (Cond.before_iff.mp (show (Jvm.Cond.and given_1 narrow_1).before args s = true from hpre))
  obtain ⟨hcount, g0⟩ := and_e hg
  obtain ⟨a0, g1⟩ := and_e g0
  obtain ⟨w0, w1, rfl⟩ : ∃ w0 w1 : Value, args = #[w0, w1] := by
    have hs : args.size = 2 := by simpa [Cond.value, given_1] using hcount
    obtain ⟨L⟩ := args
    match L, hs with
    | [w0, w1], _ => exact ⟨w0, w1, rfl⟩
  have hw := fun d (hd : d ∈ tables_1) => atoms_spec (ws := Jvm.Cond.code x code maxLocals ret :: tables_1) hat d (List.mem_cons_of_mem _ hd)
  have hfit : Fit s := fun {y c} hc i hi => by
    obtain ⟨ha, rfl⟩ := Array.getElem?_eq_some_iff.mp hc
    have q := List.all_eq_true.mp ((Array.all_eq_true_iff_forall_mem.mp hF) _ (Array.getElem_mem ha)) i (List.mem_range.mpr hi)
    simpa [Array.getElem?_eq_getElem hi] using q
  obtain ⟨hsets, hown0⟩ := atoms_of _ (rest_1_c_eq ▸ (show rest_1_c.before _ s = true from hrest))
  have hr0 := Cond.before_iff.mp hown0
  obtain ⟨i0, ei0⟩ := is_v a0
  obtain rfl : w0 = (.int i0) := Option.some.inj ei0
  obtain ⟨i1, ei1⟩ := is_v g1
  obtain rfl : w1 = (.int i1) := Option.some.inj ei1
  obtain ⟨n_a, c0⟩ := and_e hn
  obtain ⟨n_l, c1⟩ := and_e c0
  obtain ⟨n0_x, c2⟩ := and_e c1
  obtain ⟨n0_e, c3⟩ := and_e c2
  obtain ⟨n0_f, c4⟩ := and_e c3
  obtain ⟨n1_x, c5⟩ := and_e c4
  obtain ⟨n1_e, c6⟩ := and_e c5
  obtain ⟨n1_f, c7⟩ := and_e c6
  obtain ⟨n2_x, c8⟩ := and_e c7
  obtain ⟨n2_e, c9⟩ := and_e c8
  obtain ⟨n2_f, c10⟩ := and_e c9
  obtain ⟨n3_x, c11⟩ := and_e c10
  obtain ⟨n3_e, c12⟩ := and_e c11
  obtain ⟨n3_f, c13⟩ := and_e c12
  obtain ⟨n4_x, c14⟩ := and_e c13
  obtain ⟨n4_e, c15⟩ := and_e c14
  obtain ⟨n4_f, c16⟩ := and_e c15
  obtain ⟨n5_x, c17⟩ := and_e c16
  obtain ⟨n5_e, c18⟩ := and_e c17
  obtain ⟨n5_f, c19⟩ := and_e c18
  obtain ⟨n6_x, c20⟩ := and_e c19
  obtain ⟨n6_e, c21⟩ := and_e c20
  obtain ⟨n6_f, c22⟩ := and_e c21
  obtain ⟨n7_x, c23⟩ := and_e c22
  obtain ⟨n7_e, c24⟩ := and_e c23
  obtain ⟨n7_f, c25⟩ := and_e c24
  obtain ⟨n8_x, c26⟩ := and_e c25
  obtain ⟨n8_e, c27⟩ := and_e c26
  obtain ⟨n8_f, c28⟩ := and_e c27
  obtain ⟨n9_x, c29⟩ := and_e c28
  obtain ⟨n9_e, c30⟩ := and_e c29
  have n9_f := c30
  obtain ⟨ar, ev_ar⟩ := arr_v n_a
  obtain ⟨cl, hAr⟩ := Arr.start ev_ar n_a
  have hlen := own_len n_l ev_ar hAr
  have S_ALL := Sta.start ev_ar (Or.inr ⟨(hw _ (List.mem_of_getElem? (i := 2) rfl)), (hw _ (List.mem_of_getElem? (i := 5) rfl))⟩)
  obtain ⟨a0, ev0⟩ := exa_v n0_x
  have S_0 := Sta.start ev0 (Or.inr ⟨(hw _ (List.mem_of_getElem? (i := 2) rfl)), (hw _ (List.mem_of_getElem? (i := 6) rfl))⟩)
  have hi0 := elem_in (own_eqR n0_e ev0) ev_ar (Term.int_eval _) hAr.1
  have hF0 := Fld.start ((fld_at ev0).symm.trans (own_eqI n0_f))
  obtain ⟨a1, ev1⟩ := exa_v n1_x
  have S_1 := Sta.start ev1 (Or.inr ⟨(hw _ (List.mem_of_getElem? (i := 2) rfl)), (hw _ (List.mem_of_getElem? (i := 9) rfl))⟩)
  have hi1 := elem_in (own_eqR n1_e ev1) ev_ar (Term.int_eval _) hAr.1
  have hF1 := Fld.start ((fld_at ev1).symm.trans (own_eqI n1_f))
  obtain ⟨a2, ev2⟩ := exa_v n2_x
  have S_2 := Sta.start ev2 (Or.inr ⟨(hw _ (List.mem_of_getElem? (i := 2) rfl)), (hw _ (List.mem_of_getElem? (i := 10) rfl))⟩)
  have hi2 := elem_in (own_eqR n2_e ev2) ev_ar (Term.int_eval _) hAr.1
  have hF2 := Fld.start ((fld_at ev2).symm.trans (own_eqI n2_f))
  obtain ⟨a3, ev3⟩ := exa_v n3_x
  have S_3 := Sta.start ev3 (Or.inr ⟨(hw _ (List.mem_of_getElem? (i := 2) rfl)), (hw _ (List.mem_of_getElem? (i := 11) rfl))⟩)
  have hi3 := elem_in (own_eqR n3_e ev3) ev_ar (Term.int_eval _) hAr.1
  have hF3 := Fld.start ((fld_at ev3).symm.trans (own_eqI n3_f))
  obtain ⟨a4, ev4⟩ := exa_v n4_x
  have S_4 := Sta.start ev4 (Or.inr ⟨(hw _ (List.mem_of_getElem? (i := 2) rfl)), (hw _ (List.mem_of_getElem? (i := 12) rfl))⟩)
  have hi4 := elem_in (own_eqR n4_e ev4) ev_ar (Term.int_eval _) hAr.1
  have hF4 := Fld.start ((fld_at ev4).symm.trans (own_eqI n4_f))
  obtain ⟨a5, ev5⟩ := exa_v n5_x
  have S_5 := Sta.start ev5 (Or.inr ⟨(hw _ (List.mem_of_getElem? (i := 2) rfl)), (hw _ (List.mem_of_getElem? (i := 13) rfl))⟩)
  have hi5 := elem_in (own_eqR n5_e ev5) ev_ar (Term.int_eval _) hAr.1
  have hF5 := Fld.start ((fld_at ev5).symm.trans (own_eqI n5_f))
  obtain ⟨a6, ev6⟩ := exa_v n6_x
  have S_6 := Sta.start ev6 (Or.inr ⟨(hw _ (List.mem_of_getElem? (i := 2) rfl)), (hw _ (List.mem_of_getElem? (i := 14) rfl))⟩)
  have hi6 := elem_in (own_eqR n6_e ev6) ev_ar (Term.int_eval _) hAr.1
  have hF6 := Fld.start ((fld_at ev6).symm.trans (own_eqI n6_f))
  obtain ⟨a7, ev7⟩ := exa_v n7_x
  have S_7 := Sta.start ev7 (Or.inr ⟨(hw _ (List.mem_of_getElem? (i := 2) rfl)), (hw _ (List.mem_of_getElem? (i := 15) rfl))⟩)
  have hi7 := elem_in (own_eqR n7_e ev7) ev_ar (Term.int_eval _) hAr.1
  have hF7 := Fld.start ((fld_at ev7).symm.trans (own_eqI n7_f))
  obtain ⟨a8, ev8⟩ := exa_v n8_x
  have S_8 := Sta.start ev8 (Or.inr ⟨(hw _ (List.mem_of_getElem? (i := 2) rfl)), (hw _ (List.mem_of_getElem? (i := 16) rfl))⟩)
  have hi8 := elem_in (own_eqR n8_e ev8) ev_ar (Term.int_eval _) hAr.1
  have hF8 := Fld.start ((fld_at ev8).symm.trans (own_eqI n8_f))
  obtain ⟨a9, ev9⟩ := exa_v n9_x
  have S_9 := Sta.start ev9 (Or.inr ⟨(hw _ (List.mem_of_getElem? (i := 2) rfl)), (hw _ (List.mem_of_getElem? (i := 17) rfl))⟩)
  have hi9 := elem_in (own_eqR n9_e ev9) ev_ar (Term.int_eval _) hAr.1
  have hF9 := Fld.start ((fld_at ev9).symm.trans (own_eqI n9_f))
  have hE : own_En s s.heap ar cl a0 a1 a2 a3 a4 a5 a6 a7 a8 a9 := ⟨S_ALL, hAr, hlen, hi0, hF0, hi1, hF1, hi2, hF2, hi3, hF3, hi4, hF4, hi5, hF5, hi6, hF6, hi7, hF7, hi8, hF8, hi9, hF9⟩
  have n5 := not_v (Cond.before_iff.mp (hsets _ (List.mem_of_getElem? (i := 2) rfl)))
  obtain ⟨cz, ecz⟩ := is_v (Cond.before_iff.mp (hsets _ (List.mem_of_getElem? (i := 1) rfl)))
  have S12 : Sta s s.heap "java/lang/String" "COMPACT_STRINGS" "Z" (.int cz) := Sta.start ecz (Or.inl (hsets _ (List.mem_of_getElem? (i := 0) rfl)))
  have c17 : ¬ (cz = (0 : Int32)) := gotF (Cond.eq_ints ecz (Term.int_eval (0))) n5
  obtain ⟨G3, eG3, rG3⟩ := isR_v (Cond.before_iff.mp (hsets _ (List.mem_of_getElem? (i := 8) rfl)))
  have S16 : Sta s s.heap "jdk/internal/util/Preconditions" "SIOOBE_FORMATTER" "Ljava/util/function/BiFunction;" G3 := Sta.start eG3 (Or.inl (hsets _ (List.mem_of_getElem? (i := 7) rfl)))
  have hheld : Jvm.Lit.constHeld s "com/example/minilingua/minilingua/lang/badkode/OperationSpelledPinLaw" 40 := hcalls.1 ("com/example/minilingua/minilingua/lang/badkode/OperationSpelledPinLaw", 40) (by simp [consts_1])
  obtain ⟨n, o, h1, h2, h3, _, L, rfl, ⟨rfl, N⟩, hq⟩ := own_rm0 l s _ hw tables_1 i0 i1 ar cl a0 a1 a2 a3 a4 a5 a6 a7 a8 a9 cz G3 hE S_0 S_1 S_2 S_3 S_4 S_5 S_6 S_7 S_8 S_9 S12 c17 S16 rG3 hheld (hsets _ (List.mem_of_getElem? (i := 2) rfl)) p e ha hc hk s m _ below hf ((Spec.applies_iff_loose hf).mp happ).1 ⟨rfl, rfl⟩ trivial
  refine ⟨n, _, h1, h2, h3, hpost _ _ _ _ _ _ ⟨Cond.after_iff.mpr rfl, Cond.after_iff.mpr (eq_i res_at (Term.int_eval (1)) rfl), trivial⟩ ⟨hq.1, hq.2.1, hq.2.2.1, (hq.2.2.2.sift fun y hy => Or.inr (N y hy)).mono (by decide) (by decide)⟩⟩
theorem main_1_1 : Claimed_1_1 := own_comes fun _ _ _ _ _ _ h hF => ⟨h.1, hF⟩
theorem main_1_2 : Claimed_1_2 := own_comes fun _ _ _ _ _ _ h hF => ⟨h.2.1, hF⟩
end Jvm.Pilot.@@N@@
namespace Jvm.Pilot.@@N@@
open Jvm Jvm.ClassFile Sem Op Lib Jvm.Free Jvm.Stand Jvm.Pilot.@@N@@.Jvm.D
/-! MADE BY PROGRAM (witnessworld.py) out of the Statement's table words and the real class files: 19 classes; the members and pool entries that the words name. The judged class is class 1, her method 2. -/
namespace start1
open Jvm.ClassFile
def u (s : String) : CpInfo := .utf8 (stringToUtf16 s)
/-- a pool by its gaps: so many unusable entries, then the entry; so many at the end -/
def gap : Nat → List CpInfo → List CpInfo
  | 0, r => r
  | n + 1, r => .unusable :: gap n r
def poolList (es : List (Nat × CpInfo)) (last : Nat) : List CpInfo := es.foldr (fun e r => gap e.1 (e.2 :: r)) (gap last [])
def pool (es : List (Nat × CpInfo)) (last : Nat) : Array CpInfo := ⟨poolList es last⟩
def fileOf (pool : Array CpInfo) (this : Nat) (attrs : Array Attribute := #[]) (ms : Array MethodInfo := #[]) (fl : Nat := 33) (sup : Nat := 0) (ifs : Array Nat := #[]) (fds : Array FieldInfo := #[]) : ClassFile where
  minorVersion := 0
  majorVersion := 65
  constantPool := pool
  accessFlags := fl
  thisClass := this
  superClass := sup
  interfaces := ifs
  fields := fds
  methods := ms
  attributes := attrs
def plain (name : String) (sup : Option ClassId) : Class where
  name := name
  kind := .ordinary
  loader := none
  accessFlags := 33
  super := sup
  interfaces := #[]
  cf := none
  fields := #[]
  methods := #[]
  instanceTypes := #[]
  staticTypes := #[]
  resolved := #[]
  callSites := []
  init := .initialized
  statics := none
  mirror := none

def pool0 : Array CpInfo := pool [(5, u "<init>"), (0, u "()V"), (1, .class_ 10), (1, u "java/lang/Object")] 113

def k0m0 : Method := { name := "<init>", desc := "()V", sig := { parameters := [], returnType := none }, accessFlags := 1, code := none }
/-- java/lang/Object -/
def k0 : Class := { plain "java/lang/Object" none with
  accessFlags := 33
  interfaces := #[]
  cf := some (fileOf pool0 8 #[] #[{ accessFlags := 1, nameIndex := 5, descriptorIndex := 6, attributes := #[] }] 33 0 #[] #[])
  fields := #[]
  methods := #[k0m0]
  instanceTypes := #[]
  staticTypes := #[]
  resolved := Array.replicate 124 none
  statics := none }

def pool1 : Array CpInfo := pool [(2, .class_ 4), (1, u "java/lang/Object"), (0, u "<init>"), (0, u "()V"), (0, .fieldref 8 9), (0, .class_ 10), (0, .nameAndType 11 12), (0, u "com/example/minilingua/minilingua/lang/badkode/Operation"), (0, u "MOVE"), (0, u "Lcom/example/minilingua/minilingua/lang/badkode/Operation;"), (0, .fieldref 8 14), (0, .nameAndType 15 12), (0, u "ADD"), (0, .fieldref 8 17), (0, .nameAndType 18 12), (0, u "SUBTRACT"), (0, .fieldref 8 20), (0, .nameAndType 21 12), (0, u "PUSH"), (0, .fieldref 8 23), (0, .nameAndType 24 12), (0, u "PULL"), (0, .fieldref 8 26), (0, .nameAndType 27 12), (0, u "WRITE_NUMBER"), (0, .fieldref 8 29), (0, .nameAndType 30 12), (0, u "WRITE_BYTE"), (0, .fieldref 8 32), (0, .nameAndType 33 12), (0, u "READ"), (0, .fieldref 8 35), (0, .nameAndType 36 12), (0, u "LOOP"), (0, .fieldref 8 38), (0, .nameAndType 39 12), (0, u "END_LOOP"), (0, .string 41), (0, u "+-)('\"?{}>"), (0, .methodref 43 44), (0, .class_ 45), (0, .nameAndType 46 47), (0, u "java/lang/String"), (0, u "charAt"), (0, u "(I)C"), (0, .methodref 8 49), (0, .nameAndType 50 51), (0, u "spelled"), (0, u "(C)Lcom/example/minilingua/minilingua/lang/badkode/Operation;"), (0, .methodref 53 54), (0, .class_ 55), (0, .nameAndType 56 51), (0, u "com/example/minilingua/minilingua/lang/badkode/OperationSpelledPinLaw"), (0, u "expected"), (3, u "law"), (0, u "(II)Z")] 2

def k1m0 : Method := { name := "<init>", desc := "()V", sig := { parameters := [], returnType := none }, accessFlags := 1, code := none }
def k1c1 : Code := { maxStack := 2, maxLocals := 1, code := method_2_code, exceptionTable := #[], attributes := #[] }
def k1m1 : Method := { name := "expected", desc := "(C)Lcom/example/minilingua/minilingua/lang/badkode/Operation;", sig := { parameters := [.char], returnType := some (.object "com/example/minilingua/minilingua/lang/badkode/Operation") }, accessFlags := 10, code := some k1c1 }
def k1c2 : Code := { maxStack := 3, maxLocals := 3, code := code, exceptionTable := #[], attributes := #[] }
def k1m2 : Method := { name := "law", desc := "(II)Z", sig := { parameters := [.int, .int], returnType := some .boolean }, accessFlags := 9, code := some k1c2 }
/-- com/example/minilingua/minilingua/lang/badkode/OperationSpelledPinLaw -/
def k1 : Class := { plain "com/example/minilingua/minilingua/lang/badkode/OperationSpelledPinLaw" (some 0) with
  accessFlags := 49
  interfaces := #[]
  cf := some (fileOf pool1 53 #[] #[{ accessFlags := 1, nameIndex := 5, descriptorIndex := 6, attributes := #[] }, { accessFlags := 10, nameIndex := 56, descriptorIndex := 51, attributes := #[] }, { accessFlags := 9, nameIndex := 60, descriptorIndex := 61, attributes := #[] }] 49 2 #[] #[])
  fields := #[]
  methods := #[k1m0, k1m1, k1m2]
  instanceTypes := #[]
  staticTypes := #[]
  resolved := Array.replicate 64 none
  statics := none }

def pool2 : Array CpInfo := pool [(1, .class_ 2), (0, u "java/lang/constant/Constable"), (0, .class_ 4), (0, u "java/lang/Object")] 6

/-- java/lang/constant/Constable -/
def k2 : Class := { plain "java/lang/constant/Constable" (some 0) with
  accessFlags := 1537
  interfaces := #[]
  cf := some (fileOf pool2 1 #[] #[] 1537 3 #[] #[])
  fields := #[]
  methods := #[]
  instanceTypes := #[]
  staticTypes := #[]
  resolved := Array.replicate 11 none
  statics := none }

def pool3 : Array CpInfo := pool [(1, .class_ 2), (0, u "java/lang/Comparable"), (0, .class_ 4), (0, u "java/lang/Object")] 7

/-- java/lang/Comparable -/
def k3 : Class := { plain "java/lang/Comparable" (some 0) with
  accessFlags := 1537
  interfaces := #[]
  cf := some (fileOf pool3 1 #[] #[] 1537 3 #[] #[])
  fields := #[]
  methods := #[]
  instanceTypes := #[]
  staticTypes := #[]
  resolved := Array.replicate 12 none
  statics := none }

def pool4 : Array CpInfo := pool [(1, .class_ 2), (0, u "java/io/Serializable"), (0, .class_ 4), (0, u "java/lang/Object")] 2

/-- java/io/Serializable -/
def k4 : Class := { plain "java/io/Serializable" (some 0) with
  accessFlags := 1537
  interfaces := #[]
  cf := some (fileOf pool4 1 #[] #[] 1537 3 #[] #[])
  fields := #[]
  methods := #[]
  instanceTypes := #[]
  staticTypes := #[]
  resolved := Array.replicate 7 none
  statics := none }

def pool5 : Array CpInfo := pool [(2, .class_ 4), (1, u "java/lang/Enum"), (0, u "name"), (0, u "Ljava/lang/String;"), (2, u "ordinal"), (0, u "I"), (1, .class_ 14), (1, u "java/lang/Object"), (4, u "hash"), (86, .class_ 108), (1, u "java/lang/Enum$EnumDesc"), (2, .class_ 112), (0, u "java/lang/constant/Constable"), (0, .class_ 114), (0, u "java/lang/Comparable"), (0, .class_ 116), (0, u "java/io/Serializable")] 87

/-- java/lang/Enum -/
def k5 : Class := { plain "java/lang/Enum" (some 0) with
  accessFlags := 1057
  interfaces := #[2, 3, 4]
  cf := some (fileOf pool5 2 #[.nestMembers #[106]] #[] 1057 12 #[111, 113, 115] #[{ accessFlags := 18, nameIndex := 5, descriptorIndex := 6, attributes := #[] }, { accessFlags := 18, nameIndex := 9, descriptorIndex := 10, attributes := #[] }, { accessFlags := 2, nameIndex := 19, descriptorIndex := 10, attributes := #[] }])
  fields := #[{ name := "name", type := (.object "java/lang/String"), accessFlags := 18, slot := 0, constantValue := 0 }, { name := "ordinal", type := .int, accessFlags := 18, slot := 1, constantValue := 0 }, { name := "hash", type := .int, accessFlags := 2, slot := 2, constantValue := 0 }]
  methods := #[]
  instanceTypes := #[(.object "java/lang/String"), .int, .int]
  staticTypes := #[]
  resolved := Array.replicate 204 none
  statics := none }

def pool6 : Array CpInfo := pool [(1, .class_ 2), (0, u "com/example/minilingua/minilingua/lang/badkode/Operation"), (2, u "MOVE"), (0, u "Lcom/example/minilingua/minilingua/lang/badkode/Operation;"), (2, u "ADD"), (2, u "SUBTRACT"), (2, u "PUSH"), (2, u "PULL"), (2, u "WRITE_NUMBER"), (2, u "WRITE_BYTE"), (2, u "READ"), (2, u "LOOP"), (2, u "END_LOOP"), (2, u "$VALUES"), (0, u "[Lcom/example/minilingua/minilingua/lang/badkode/Operation;"), (6, .class_ 46), (1, u "java/lang/Enum"), (6, .fieldref 1 54), (0, .nameAndType 55 56), (0, u "symbol"), (0, u "C"), (2, u "readsSource"), (0, u "Z"), (2, u "storesTarget"), (0, .fieldref 1 65), (0, .nameAndType 66 37), (0, u "ALL"), (26, u "spelled"), (0, u "(C)Lcom/example/minilingua/minilingua/lang/badkode/Operation;")] 7

def k6c0 : Code := { maxStack := 2, maxLocals := 5, code := prog_101_method_4_code, exceptionTable := #[], attributes := #[] }
def k6m0 : Method := { name := "spelled", desc := "(C)Lcom/example/minilingua/minilingua/lang/badkode/Operation;", sig := { parameters := [.char], returnType := some (.object "com/example/minilingua/minilingua/lang/badkode/Operation") }, accessFlags := 8, code := some k6c0 }
/-- com/example/minilingua/minilingua/lang/badkode/Operation -/
def k6 : Class := { plain "com/example/minilingua/minilingua/lang/badkode/Operation" (some 5) with
  accessFlags := 16432
  interfaces := #[]
  cf := some (fileOf pool6 1 #[] #[{ accessFlags := 8, nameIndex := 93, descriptorIndex := 94, attributes := #[] }] 16432 44 #[] #[{ accessFlags := 16409, nameIndex := 5, descriptorIndex := 6, attributes := #[] }, { accessFlags := 16409, nameIndex := 9, descriptorIndex := 6, attributes := #[] }, { accessFlags := 16409, nameIndex := 12, descriptorIndex := 6, attributes := #[] }, { accessFlags := 16409, nameIndex := 15, descriptorIndex := 6, attributes := #[] }, { accessFlags := 16409, nameIndex := 18, descriptorIndex := 6, attributes := #[] }, { accessFlags := 16409, nameIndex := 21, descriptorIndex := 6, attributes := #[] }, { accessFlags := 16409, nameIndex := 24, descriptorIndex := 6, attributes := #[] }, { accessFlags := 16409, nameIndex := 27, descriptorIndex := 6, attributes := #[] }, { accessFlags := 16409, nameIndex := 30, descriptorIndex := 6, attributes := #[] }, { accessFlags := 16409, nameIndex := 33, descriptorIndex := 6, attributes := #[] }, { accessFlags := 26, nameIndex := 66, descriptorIndex := 37, attributes := #[] }, { accessFlags := 18, nameIndex := 55, descriptorIndex := 56, attributes := #[] }, { accessFlags := 18, nameIndex := 59, descriptorIndex := 60, attributes := #[] }, { accessFlags := 18, nameIndex := 63, descriptorIndex := 60, attributes := #[] }, { accessFlags := 4122, nameIndex := 36, descriptorIndex := 37, attributes := #[] }])
  fields := #[{ name := "MOVE", type := (.object "com/example/minilingua/minilingua/lang/badkode/Operation"), accessFlags := 16409, slot := 0, constantValue := 0 }, { name := "ADD", type := (.object "com/example/minilingua/minilingua/lang/badkode/Operation"), accessFlags := 16409, slot := 1, constantValue := 0 }, { name := "SUBTRACT", type := (.object "com/example/minilingua/minilingua/lang/badkode/Operation"), accessFlags := 16409, slot := 2, constantValue := 0 }, { name := "PUSH", type := (.object "com/example/minilingua/minilingua/lang/badkode/Operation"), accessFlags := 16409, slot := 3, constantValue := 0 }, { name := "PULL", type := (.object "com/example/minilingua/minilingua/lang/badkode/Operation"), accessFlags := 16409, slot := 4, constantValue := 0 }, { name := "WRITE_NUMBER", type := (.object "com/example/minilingua/minilingua/lang/badkode/Operation"), accessFlags := 16409, slot := 5, constantValue := 0 }, { name := "WRITE_BYTE", type := (.object "com/example/minilingua/minilingua/lang/badkode/Operation"), accessFlags := 16409, slot := 6, constantValue := 0 }, { name := "READ", type := (.object "com/example/minilingua/minilingua/lang/badkode/Operation"), accessFlags := 16409, slot := 7, constantValue := 0 }, { name := "LOOP", type := (.object "com/example/minilingua/minilingua/lang/badkode/Operation"), accessFlags := 16409, slot := 8, constantValue := 0 }, { name := "END_LOOP", type := (.object "com/example/minilingua/minilingua/lang/badkode/Operation"), accessFlags := 16409, slot := 9, constantValue := 0 }, { name := "ALL", type := (.array (.object "com/example/minilingua/minilingua/lang/badkode/Operation")), accessFlags := 26, slot := 10, constantValue := 0 }, { name := "symbol", type := .char, accessFlags := 18, slot := 3, constantValue := 0 }, { name := "readsSource", type := .boolean, accessFlags := 18, slot := 4, constantValue := 0 }, { name := "storesTarget", type := .boolean, accessFlags := 18, slot := 5, constantValue := 0 }, { name := "$VALUES", type := (.array (.object "com/example/minilingua/minilingua/lang/badkode/Operation")), accessFlags := 4122, slot := 11, constantValue := 0 }]
  methods := #[k6m0]
  instanceTypes := #[(.object "java/lang/String"), .int, .int, .char, .boolean, .boolean]
  staticTypes := #[(.object "com/example/minilingua/minilingua/lang/badkode/Operation"), (.object "com/example/minilingua/minilingua/lang/badkode/Operation"), (.object "com/example/minilingua/minilingua/lang/badkode/Operation"), (.object "com/example/minilingua/minilingua/lang/badkode/Operation"), (.object "com/example/minilingua/minilingua/lang/badkode/Operation"), (.object "com/example/minilingua/minilingua/lang/badkode/Operation"), (.object "com/example/minilingua/minilingua/lang/badkode/Operation"), (.object "com/example/minilingua/minilingua/lang/badkode/Operation"), (.object "com/example/minilingua/minilingua/lang/badkode/Operation"), (.object "com/example/minilingua/minilingua/lang/badkode/Operation"), (.array (.object "com/example/minilingua/minilingua/lang/badkode/Operation")), (.array (.object "com/example/minilingua/minilingua/lang/badkode/Operation"))]
  resolved := Array.replicate 102 none
  statics := some 0 }

def pool7 : Array CpInfo := pool [(2, .class_ 4), (1, u "java/lang/CharSequence"), (42, .class_ 48), (0, u "java/lang/CharSequence$1CodePointIterator"), (10, .class_ 60), (0, u "java/lang/CharSequence$1CharIterator"), (5, .class_ 67), (0, u "java/lang/Object")] 63

/-- java/lang/CharSequence -/
def k7 : Class := { plain "java/lang/CharSequence" (some 0) with
  accessFlags := 1537
  interfaces := #[]
  cf := some (fileOf pool7 2 #[.nestMembers #[47, 59]] #[] 1537 66 #[] #[])
  fields := #[]
  methods := #[]
  instanceTypes := #[]
  staticTypes := #[]
  resolved := Array.replicate 131 none
  statics := none }

def pool8 : Array CpInfo := pool [(1, .class_ 2), (0, u "java/lang/constant/ConstantDesc"), (0, .class_ 4), (0, u "java/lang/Object")] 32

/-- java/lang/constant/ConstantDesc -/
def k8 : Class := { plain "java/lang/constant/ConstantDesc" (some 0) with
  accessFlags := 1537
  interfaces := #[]
  cf := some (fileOf pool8 1 #[] #[] 1537 3 #[] #[])
  fields := #[]
  methods := #[]
  instanceTypes := #[]
  staticTypes := #[]
  resolved := Array.replicate 37 none
  statics := none }

def pool9 : Array CpInfo := pool [(2, .class_ 4), (1, u "java/lang/Object"), (0, u "<init>"), (0, u "()V"), (2, .fieldref 10 11), (0, .class_ 12), (0, .nameAndType 13 14), (0, u "java/lang/String"), (0, u "value"), (0, u "[B"), (0, .fieldref 10 16), (0, .nameAndType 17 18), (0, u "coder"), (0, u "B"), (2, u "hash"), (0, u "I"), (2, u "hashIsZero"), (0, u "Z"), (11, .fieldref 10 39), (0, .nameAndType 40 26), (0, u "COMPACT_STRINGS"), (66, .class_ 109), (1, u "java/lang/StringLatin1"), (32, u "()Z"), (220, u "([BI)C"), (27, u "(II)V"), (35, u "(I)C"), (64, .methodref 10 493), (0, .nameAndType 494 142), (0, u "isLatin1"), (0, .methodref 107 496), (0, .nameAndType 497 363), (0, u "charAt"), (3, u "checkIndex"), (73, .class_ 576), (0, u "java/lang/CharSequence"), (22, u "CASE_INSENSITIVE_ORDER"), (0, u "Ljava/util/Comparator;"), (452, .fieldref 1054 1055), (0, .class_ 1056), (0, .nameAndType 1057 1058), (0, u "jdk/internal/util/Preconditions"), (0, u "SIOOBE_FORMATTER"), (0, u "Ljava/util/function/BiFunction;"), (0, .methodref 1054 1060), (0, .nameAndType 501 1061), (0, u "(IILjava/util/function/BiFunction;)I"), (39, u "serialPersistentFields"), (0, u "[Ljava/io/ObjectStreamField;"), (0, .class_ 1104), (0, u "java/lang/String$CaseInsensitiveComparator"), (1, .class_ 1107), (0, u "java/io/Serializable"), (0, .class_ 1109), (0, u "java/lang/Comparable"), (0, .class_ 1111), (0, u "java/lang/constant/Constable"), (0, .class_ 1113), (0, u "java/lang/constant/ConstantDesc"), (2, u "serialVersionUID"), (0, u "J"), (3, u "REPL"), (0, u "C"), (2, u "LATIN1"), (1, u "UTF16")] 323

def k9m0 : Method := { name := "<init>", desc := "()V", sig := { parameters := [], returnType := none }, accessFlags := 1, code := none }
def k9c1 : Code := { maxStack := 2, maxLocals := 2, code := jdk_42_method_56_code, exceptionTable := #[], attributes := #[] }
def k9m1 : Method := { name := "charAt", desc := "(I)C", sig := { parameters := [.int], returnType := some .char }, accessFlags := 1, code := some k9c1 }
def k9c2 : Code := { maxStack := 1, maxLocals := 1, code := jdk_42_method_154_code, exceptionTable := #[], attributes := #[] }
def k9m2 : Method := { name := "isLatin1", desc := "()Z", sig := { parameters := [], returnType := some .boolean }, accessFlags := 0, code := some k9c2 }
def k9c3 : Code := { maxStack := 3, maxLocals := 2, code := jdk_42_method_155_code, exceptionTable := #[], attributes := #[] }
def k9m3 : Method := { name := "checkIndex", desc := "(II)V", sig := { parameters := [.int, .int], returnType := none }, accessFlags := 8, code := some k9c3 }
/-- java/lang/String -/
def k9 : Class := { plain "java/lang/String" (some 0) with
  accessFlags := 49
  interfaces := #[4, 3, 7, 2, 8]
  cf := some (fileOf pool9 10 #[.nestMembers #[1103]] #[{ accessFlags := 1, nameIndex := 5, descriptorIndex := 6, attributes := #[] }, { accessFlags := 1, nameIndex := 497, descriptorIndex := 427, attributes := #[] }, { accessFlags := 0, nameIndex := 494, descriptorIndex := 142, attributes := #[] }, { accessFlags := 8, nameIndex := 501, descriptorIndex := 391, attributes := #[] }] 49 2 #[1106, 1108, 575, 1110, 1112] #[{ accessFlags := 18, nameIndex := 13, descriptorIndex := 14, attributes := #[] }, { accessFlags := 18, nameIndex := 17, descriptorIndex := 18, attributes := #[] }, { accessFlags := 2, nameIndex := 21, descriptorIndex := 22, attributes := #[] }, { accessFlags := 2, nameIndex := 25, descriptorIndex := 26, attributes := #[] }, { accessFlags := 26, nameIndex := 1116, descriptorIndex := 1117, attributes := #[] }, { accessFlags := 24, nameIndex := 40, descriptorIndex := 26, attributes := #[] }, { accessFlags := 26, nameIndex := 1101, descriptorIndex := 1102, attributes := #[] }, { accessFlags := 26, nameIndex := 1121, descriptorIndex := 1122, attributes := #[] }, { accessFlags := 25, nameIndex := 599, descriptorIndex := 600, attributes := #[] }, { accessFlags := 24, nameIndex := 1125, descriptorIndex := 18, attributes := #[] }, { accessFlags := 24, nameIndex := 1127, descriptorIndex := 18, attributes := #[] }])
  fields := #[{ name := "value", type := (.array .byte), accessFlags := 18, slot := 0, constantValue := 0 }, { name := "coder", type := .byte, accessFlags := 18, slot := 1, constantValue := 0 }, { name := "hash", type := .int, accessFlags := 2, slot := 2, constantValue := 0 }, { name := "hashIsZero", type := .boolean, accessFlags := 2, slot := 3, constantValue := 0 }, { name := "serialVersionUID", type := .long, accessFlags := 26, slot := 0, constantValue := 0 }, { name := "COMPACT_STRINGS", type := .boolean, accessFlags := 24, slot := 1, constantValue := 0 }, { name := "serialPersistentFields", type := (.array (.object "java/io/ObjectStreamField")), accessFlags := 26, slot := 2, constantValue := 0 }, { name := "REPL", type := .char, accessFlags := 26, slot := 3, constantValue := 0 }, { name := "CASE_INSENSITIVE_ORDER", type := (.object "java/util/Comparator"), accessFlags := 25, slot := 4, constantValue := 0 }, { name := "LATIN1", type := .byte, accessFlags := 24, slot := 5, constantValue := 0 }, { name := "UTF16", type := .byte, accessFlags := 24, slot := 6, constantValue := 0 }]
  methods := #[k9m0, k9m1, k9m2, k9m3]
  instanceTypes := #[(.array .byte), .byte, .int, .boolean]
  staticTypes := #[.long, .boolean, (.array (.object "java/io/ObjectStreamField")), .char, (.object "java/util/Comparator"), .byte, .byte]
  resolved := Array.replicate 1451 none
  statics := some 1 }

def pool10 : Array CpInfo := pool [(1, .class_ 2), (0, u "java/lang/String"), (1, .class_ 6), (1, u "java/lang/Object"), (0, u "<init>"), (0, u "()V"), (0, .methodref 1 10), (0, .nameAndType 11 12), (0, u "checkIndex"), (0, u "(II)V"), (1, .class_ 16), (1, u "java/lang/StringLatin1"), (36, u "([BI)C"), (67, u "$assertionsDisabled"), (0, u "Z"), (98, .class_ 223), (1, u "java/lang/StringLatin1$LinesSpliterator"), (28, u "charAt"), (137, .class_ 391), (0, u "java/lang/StringLatin1$CharsSpliterator")] 3

def k10m0 : Method := { name := "<init>", desc := "()V", sig := { parameters := [], returnType := none }, accessFlags := 0, code := none }
def k10c1 : Code := { maxStack := 2, maxLocals := 2, code := jdk_43_method_2_code, exceptionTable := #[], attributes := #[] }
def k10m1 : Method := { name := "charAt", desc := "([BI)C", sig := { parameters := [(.array .byte), .int], returnType := some .char }, accessFlags := 9, code := some k10c1 }
/-- java/lang/StringLatin1 -/
def k10 : Class := { plain "java/lang/StringLatin1" (some 0) with
  accessFlags := 48
  interfaces := #[]
  cf := some (fileOf pool10 14 #[.nestMembers #[390, 221]] #[{ accessFlags := 0, nameIndex := 7, descriptorIndex := 8, attributes := #[] }, { accessFlags := 9, nameIndex := 252, descriptorIndex := 53, attributes := #[] }] 48 4 #[] #[{ accessFlags := 4120, nameIndex := 121, descriptorIndex := 122, attributes := #[] }])
  fields := #[{ name := "$assertionsDisabled", type := .boolean, accessFlags := 4120, slot := 0, constantValue := 0 }]
  methods := #[k10m0, k10m1]
  instanceTypes := #[]
  staticTypes := #[.boolean]
  resolved := Array.replicate 395 none
  statics := none }

def pool11 : Array CpInfo := pool [(2, .class_ 4), (1, u "java/lang/Object"), (0, u "<init>"), (0, u "()V"), (17, .class_ 26), (1, u "jdk/internal/util/Preconditions"), (6, u "checkIndex"), (21, .class_ 56), (0, u "jdk/internal/util/Preconditions$4"), (57, .class_ 115), (0, u "jdk/internal/util/Preconditions$1"), (7, u "SIOOBE_FORMATTER"), (0, u "Ljava/util/function/BiFunction;"), (0, .class_ 126), (0, u "jdk/internal/util/Preconditions$2"), (3, u "AIOOBE_FORMATTER"), (0, .class_ 132), (0, u "jdk/internal/util/Preconditions$3"), (3, u "IOOBE_FORMATTER"), (41, u "(IILjava/util/function/BiFunction;)I")] 15

def k11m0 : Method := { name := "<init>", desc := "()V", sig := { parameters := [], returnType := none }, accessFlags := 1, code := none }
def k11c1 : Code := { maxStack := 3, maxLocals := 3, code := jdk_41_method_11_code, exceptionTable := #[], attributes := #[] }
def k11m1 : Method := { name := "checkIndex", desc := "(IILjava/util/function/BiFunction;)I", sig := { parameters := [.int, .int, (.object "java/util/function/BiFunction")], returnType := some .int }, accessFlags := 9, code := some k11c1 }
/-- jdk/internal/util/Preconditions -/
def k11 : Class := { plain "jdk/internal/util/Preconditions" (some 0) with
  accessFlags := 33
  interfaces := #[]
  cf := some (fileOf pool11 24 #[.nestMembers #[55, 131, 125, 114]] #[{ accessFlags := 1, nameIndex := 5, descriptorIndex := 6, attributes := #[] }, { accessFlags := 9, nameIndex := 33, descriptorIndex := 178, attributes := #[] }] 33 2 #[] #[{ accessFlags := 25, nameIndex := 123, descriptorIndex := 124, attributes := #[] }, { accessFlags := 25, nameIndex := 130, descriptorIndex := 124, attributes := #[] }, { accessFlags := 25, nameIndex := 136, descriptorIndex := 124, attributes := #[] }])
  fields := #[{ name := "SIOOBE_FORMATTER", type := (.object "java/util/function/BiFunction"), accessFlags := 25, slot := 0, constantValue := 0 }, { name := "AIOOBE_FORMATTER", type := (.object "java/util/function/BiFunction"), accessFlags := 25, slot := 1, constantValue := 0 }, { name := "IOOBE_FORMATTER", type := (.object "java/util/function/BiFunction"), accessFlags := 25, slot := 2, constantValue := 0 }]
  methods := #[k11m0, k11m1]
  instanceTypes := #[]
  staticTypes := #[(.object "java/util/function/BiFunction"), (.object "java/util/function/BiFunction"), (.object "java/util/function/BiFunction")]
  resolved := Array.replicate 194 none
  statics := some 2 }

def pool12 : Array CpInfo := pool [(9, u "<init>"), (6, .class_ 18), (1, u "java/lang/Object"), (0, u "()V"), (1, .class_ 23), (1, u "jdk/internal/util/ArraysSupport"), (0, u "LOG2_ARRAY_LONG_INDEX_SCALE"), (0, u "I"), (2, u "U"), (0, u "Ljdk/internal/misc/Unsafe;"), (8, u "BIG_ENDIAN"), (0, u "Z"), (8, u "LOG2_BYTE_BIT_SIZE"), (4, u "LOG2_ARRAY_INT_INDEX_SCALE"), (54, u "JLA"), (0, u "Ljdk/internal/access/JavaLangAccess;"), (11, u "LOG2_ARRAY_BOOLEAN_INDEX_SCALE"), (9, u "LOG2_ARRAY_BYTE_INDEX_SCALE"), (5, u "LOG2_ARRAY_CHAR_INDEX_SCALE"), (5, u "LOG2_ARRAY_SHORT_INDEX_SCALE"), (18, u "LOG2_ARRAY_FLOAT_INDEX_SCALE"), (24, u "LOG2_ARRAY_DOUBLE_INDEX_SCALE"), (89, u "T_BOOLEAN"), (2, u "T_CHAR"), (1, u "T_FLOAT"), (1, u "T_DOUBLE"), (1, u "T_BYTE"), (1, u "T_SHORT"), (1, u "T_INT"), (1, u "T_LONG"), (1, u "SOFT_MAX_ARRAY_LENGTH")] 83

def k12m0 : Method := { name := "<init>", desc := "()V", sig := { parameters := [], returnType := none }, accessFlags := 2, code := none }
/-- jdk/internal/util/ArraysSupport -/
def k12 : Class := { plain "jdk/internal/util/ArraysSupport" (some 0) with
  accessFlags := 33
  interfaces := #[]
  cf := some (fileOf pool12 21 #[] #[{ accessFlags := 2, nameIndex := 9, descriptorIndex := 19, attributes := #[] }] 33 16 #[] #[{ accessFlags := 24, nameIndex := 28, descriptorIndex := 29, attributes := #[] }, { accessFlags := 26, nameIndex := 38, descriptorIndex := 39, attributes := #[] }, { accessFlags := 25, nameIndex := 121, descriptorIndex := 25, attributes := #[] }, { accessFlags := 25, nameIndex := 131, descriptorIndex := 25, attributes := #[] }, { accessFlags := 25, nameIndex := 137, descriptorIndex := 25, attributes := #[] }, { accessFlags := 25, nameIndex := 143, descriptorIndex := 25, attributes := #[] }, { accessFlags := 25, nameIndex := 53, descriptorIndex := 25, attributes := #[] }, { accessFlags := 25, nameIndex := 24, descriptorIndex := 25, attributes := #[] }, { accessFlags := 25, nameIndex := 162, descriptorIndex := 25, attributes := #[] }, { accessFlags := 25, nameIndex := 187, descriptorIndex := 25, attributes := #[] }, { accessFlags := 26, nameIndex := 48, descriptorIndex := 25, attributes := #[] }, { accessFlags := 25, nameIndex := 277, descriptorIndex := 25, attributes := #[] }, { accessFlags := 25, nameIndex := 280, descriptorIndex := 25, attributes := #[] }, { accessFlags := 25, nameIndex := 282, descriptorIndex := 25, attributes := #[] }, { accessFlags := 25, nameIndex := 284, descriptorIndex := 25, attributes := #[] }, { accessFlags := 25, nameIndex := 286, descriptorIndex := 25, attributes := #[] }, { accessFlags := 25, nameIndex := 288, descriptorIndex := 25, attributes := #[] }, { accessFlags := 25, nameIndex := 290, descriptorIndex := 25, attributes := #[] }, { accessFlags := 25, nameIndex := 292, descriptorIndex := 25, attributes := #[] }, { accessFlags := 26, nameIndex := 108, descriptorIndex := 109, attributes := #[] }, { accessFlags := 25, nameIndex := 294, descriptorIndex := 25, attributes := #[] }])
  fields := #[{ name := "U", type := (.object "jdk/internal/misc/Unsafe"), accessFlags := 24, slot := 0, constantValue := 0 }, { name := "BIG_ENDIAN", type := .boolean, accessFlags := 26, slot := 1, constantValue := 0 }, { name := "LOG2_ARRAY_BOOLEAN_INDEX_SCALE", type := .int, accessFlags := 25, slot := 2, constantValue := 0 }, { name := "LOG2_ARRAY_BYTE_INDEX_SCALE", type := .int, accessFlags := 25, slot := 3, constantValue := 0 }, { name := "LOG2_ARRAY_CHAR_INDEX_SCALE", type := .int, accessFlags := 25, slot := 4, constantValue := 0 }, { name := "LOG2_ARRAY_SHORT_INDEX_SCALE", type := .int, accessFlags := 25, slot := 5, constantValue := 0 }, { name := "LOG2_ARRAY_INT_INDEX_SCALE", type := .int, accessFlags := 25, slot := 6, constantValue := 0 }, { name := "LOG2_ARRAY_LONG_INDEX_SCALE", type := .int, accessFlags := 25, slot := 7, constantValue := 0 }, { name := "LOG2_ARRAY_FLOAT_INDEX_SCALE", type := .int, accessFlags := 25, slot := 8, constantValue := 0 }, { name := "LOG2_ARRAY_DOUBLE_INDEX_SCALE", type := .int, accessFlags := 25, slot := 9, constantValue := 0 }, { name := "LOG2_BYTE_BIT_SIZE", type := .int, accessFlags := 26, slot := 10, constantValue := 0 }, { name := "T_BOOLEAN", type := .int, accessFlags := 25, slot := 11, constantValue := 0 }, { name := "T_CHAR", type := .int, accessFlags := 25, slot := 12, constantValue := 0 }, { name := "T_FLOAT", type := .int, accessFlags := 25, slot := 13, constantValue := 0 }, { name := "T_DOUBLE", type := .int, accessFlags := 25, slot := 14, constantValue := 0 }, { name := "T_BYTE", type := .int, accessFlags := 25, slot := 15, constantValue := 0 }, { name := "T_SHORT", type := .int, accessFlags := 25, slot := 16, constantValue := 0 }, { name := "T_INT", type := .int, accessFlags := 25, slot := 17, constantValue := 0 }, { name := "T_LONG", type := .int, accessFlags := 25, slot := 18, constantValue := 0 }, { name := "JLA", type := (.object "jdk/internal/access/JavaLangAccess"), accessFlags := 26, slot := 19, constantValue := 0 }, { name := "SOFT_MAX_ARRAY_LENGTH", type := .int, accessFlags := 25, slot := 20, constantValue := 0 }]
  methods := #[k12m0]
  instanceTypes := #[]
  staticTypes := #[(.object "jdk/internal/misc/Unsafe"), .boolean, .int, .int, .int, .int, .int, .int, .int, .int, .int, .int, .int, .int, .int, .int, .int, .int, .int, (.object "jdk/internal/access/JavaLangAccess"), .int]
  resolved := Array.replicate 378 none
  statics := none }

def pool13 : Array CpInfo := pool [(1, u "java/lang/Cloneable"), (0, .class_ 1), (0, u "java/lang/Object"), (0, .class_ 3)] 3

/-- java/lang/Cloneable -/
def k13 : Class := { plain "java/lang/Cloneable" (some 0) with
  accessFlags := 1537
  interfaces := #[]
  cf := some (fileOf pool13 2 #[] #[] 1537 4 #[] #[])
  fields := #[]
  methods := #[]
  instanceTypes := #[]
  staticTypes := #[]
  resolved := Array.replicate 8 none
  statics := none }

/-- the primitive byte -/
def k14 : Class := { plain "byte" none with kind := .primitive 'B', accessFlags := 0x411 }
/-- [B -/
def k15 : Class := { plain "[B" (some 0) with kind := .array 14 .byte, interfaces := #[13, 4], accessFlags := 1041 }

/-- the primitive int -/
def k16 : Class := { plain "int" none with kind := .primitive 'I', accessFlags := 0x411 }
/-- [I -/
def k17 : Class := { plain "[I" (some 0) with kind := .array 16 .int, interfaces := #[13, 4], accessFlags := 1041 }

/-- [Lcom/example/minilingua/minilingua/lang/badkode/Operation; -/
def k18 : Class := { plain "[Lcom/example/minilingua/minilingua/lang/badkode/Operation;" (some 0) with kind := .array 6 (.object "com/example/minilingua/minilingua/lang/badkode/Operation"), interfaces := #[13, 4], accessFlags := 1041 }

def heap : Heap := #[{ cls := 6, slots := #[.ref 4, .ref 5, .ref 6, .ref 7, .ref 8, .ref 9, .ref 10, .ref 11, .ref 12, .ref 13, .ref 3, .null], vm := .statics 6 },
  { cls := 9, slots := #[.long 0, .int 1, .null, .int 0, .null, .int 0, .int 0], vm := .statics 9 },
  { cls := 11, slots := #[.null, .null, .null], vm := .statics 11 },
  { cls := 18, slots := #[.ref 4, .ref 5, .ref 6, .ref 7, .ref 8, .ref 9, .ref 10, .ref 11, .ref 12, .ref 13], vm := .none },
  { cls := 6, slots := #[.null, .int 0, .int 0, .int 62, .int 0, .int 0], vm := .none },
  { cls := 6, slots := #[.null, .int 0, .int 0, .int 43, .int 0, .int 0], vm := .none },
  { cls := 6, slots := #[.null, .int 0, .int 0, .int 45, .int 0, .int 0], vm := .none },
  { cls := 6, slots := #[.null, .int 0, .int 0, .int 41, .int 0, .int 0], vm := .none },
  { cls := 6, slots := #[.null, .int 0, .int 0, .int 40, .int 0, .int 0], vm := .none },
  { cls := 6, slots := #[.null, .int 0, .int 0, .int 39, .int 0, .int 0], vm := .none },
  { cls := 6, slots := #[.null, .int 0, .int 0, .int 34, .int 0, .int 0], vm := .none },
  { cls := 6, slots := #[.null, .int 0, .int 0, .int 63, .int 0, .int 0], vm := .none },
  { cls := 6, slots := #[.null, .int 0, .int 0, .int 123, .int 0, .int 0], vm := .none },
  { cls := 6, slots := #[.null, .int 0, .int 0, .int 125, .int 0, .int 0], vm := .none }]
def classes : Array Class := #[k0, k1, k2, k3, k4, k5, k6, k7, k8, k9, k10, k11, k12, k13, k14, k15, k16, k17, k18]
def interned : List (Array UInt16 × Addr) := []
def slotsUsed : Nat := 92
def theMethod : MethodId := ⟨1, 2⟩
def args0 : Array Value := #[.int 2, .int 5]
def aboutOver (below : List Frame) : State where
  vm := { classes := classes, interned := interned.toArray }
  heap := heap
  slotsUsed := slotsUsed
  threads := #[{ frames := .invoking theMethod args0 :: below }]
def below0 : List Frame := [.native { method := ⟨0, 0⟩, args := #[] }]
def about1 : State := aboutOver below0
def p0 : Program := .bare "" "" ""
def e0 : Env := launch0.env 0 0 0
theorem w_frames : about1.frames = Frame.invoking theMethod args0 :: below0 := rfl
set_option maxRecDepth 65536 in
theorem w_args : argsFit about1.vm theMethod args0 = true := by decide +kernel
set_option maxRecDepth 65536 in
theorem w_heap : heapFits about1 = true := by decide +kernel
set_option maxRecDepth 65536 in
theorem w_runnable : about1.curStatus? = some .runnable := by decide +kernel
set_option maxRecDepth 65536 in
theorem w_alone : about1.alone = true := by decide +kernel
set_option maxRecDepth 65536 in
theorem w_named : about1.methodNamed? x = some theMethod := by decide +kernel
set_option maxRecDepth 65536 in
theorem w_hears : about1.hears theMethod below0 = true := by decide +kernel
set_option maxRecDepth 65536 in
theorem w_ripe : about1.ripe theMethod args0 below0 = true := by decide +kernel
theorem w_running : about1.status = .running := rfl
set_option maxRecDepth 65536 in
theorem w_room : about1.hasRoom e0.platform room_1 = true :=
  launch0.hasRoom_least _ room_1 (by decide +kernel) (by decide +kernel) (by decide +kernel) (by decide +kernel) (by decide +kernel) (by decide +kernel)
theorem allAtoms_all (ts : List Jvm.Cond) (a : Array Jvm.Value) (st : Jvm.State) : (allAtoms ts).before a st = ts.all (fun c => c.before a st) := by
  induction ts with
  | nil => rfl
  | cons c t ih =>
    show (Jvm.Cond.and c (allAtoms t)).before a st = _
    rw [Jvm.Cond.before_and, ih, List.all_cons]
def words1 : List Jvm.Cond := Jvm.Cond.code x code maxLocals ret :: tables_1
/-- a 'code' word, met by the world's own term for the bytes: nothing is compared byte by byte -/
theorem code_word {y : MethodName} {bytes : ByteArray} {mx : Nat} {rt : Option FieldType} {a : Array Value} {s : State} {m : MethodId} {meth : Method} {c : Code} (h1 : s.methodNamed? y = some m) (h2 : s.vm.method? m = some meth) (h3 : meth.code = some c) (h4 : c.code = bytes)
    (h5 : (c.maxLocals == mx && c.exceptionTable.isEmpty && decide (c.maxStack ≤ mostOperands) && decide (meth.sig.returnType = rt) && !meth.locks && decide (parseMethodDescriptor y.desc = some meth.sig)) = true) : (Jvm.Cond.code y bytes mx rt).before a s = true := by
  simp only [Bool.and_eq_true, beq_iff_eq, Bool.not_eq_true', decide_eq_true_eq] at h5
  obtain ⟨⟨⟨⟨⟨g1, g2⟩, g3⟩, g4⟩, g5⟩, g6⟩ := h5
  simp [Cond.before, Cond.holds, Cond.value, h1, h2, h3, h4, g1, g2, g3, g4, g5, g6]
def isCode : Jvm.Cond → Bool
  | .code _ _ _ _ => true
  | _ => false
theorem all_split {L : List Jvm.Cond} {P : Jvm.Cond → Bool} (h1 : L.all (fun c => isCode c || P c) = true) (h2 : ∀ c ∈ L.filter isCode, P c = true) : L.all P = true := by
  refine List.all_eq_true.mpr fun c hc => ?_
  have h := List.all_eq_true.mp h1 c hc
  rcases Bool.eq_false_or_eq_true (isCode c) with hi | hi
  · exact h2 c (List.mem_filter.mpr ⟨hc, hi⟩)
  · simpa [hi] using h
set_option maxRecDepth 65536 in
theorem w_c0 : (Jvm.Cond.code x code maxLocals ret).before args0 about1 = true := code_word (m := ⟨1, 2⟩) (meth := k1m2) (c := k1c2) (by decide +kernel) rfl rfl rfl (by decide +kernel)
set_option maxRecDepth 65536 in
theorem w_c1 : (Jvm.Cond.code ({ cls := "com/example/minilingua/minilingua/lang/badkode/Operation", name := "spelled", desc := "(C)Lcom/example/minilingua/minilingua/lang/badkode/Operation;" } : Jvm.MethodName) prog_101_method_4_code (5 : Nat) (Option.some (Jvm.ClassFile.FieldType.object "com/example/minilingua/minilingua/lang/badkode/Operation"))).before args0 about1 = true := code_word (m := ⟨6, 0⟩) (meth := k6m0) (c := k6c0) (by decide +kernel) rfl rfl rfl (by decide +kernel)
set_option maxRecDepth 65536 in
theorem w_c2 : (Jvm.Cond.code ({ cls := "com/example/minilingua/minilingua/lang/badkode/OperationSpelledPinLaw", name := "expected", desc := "(C)Lcom/example/minilingua/minilingua/lang/badkode/Operation;" } : Jvm.MethodName) method_2_code (1 : Nat) (Option.some (Jvm.ClassFile.FieldType.object "com/example/minilingua/minilingua/lang/badkode/Operation"))).before args0 about1 = true := code_word (m := ⟨1, 1⟩) (meth := k1m1) (c := k1c1) (by decide +kernel) rfl rfl rfl (by decide +kernel)
set_option maxRecDepth 65536 in
theorem w_c3 : (Jvm.Cond.code ({ cls := "java/lang/String", name := "charAt", desc := "(I)C" } : Jvm.MethodName) jdk_42_method_56_code (2 : Nat) (Option.some Jvm.ClassFile.FieldType.char)).before args0 about1 = true := code_word (m := ⟨9, 1⟩) (meth := k9m1) (c := k9c1) (by decide +kernel) rfl rfl rfl (by decide +kernel)
set_option maxRecDepth 65536 in
theorem w_c4 : (Jvm.Cond.code ({ cls := "java/lang/String", name := "isLatin1", desc := "()Z" } : Jvm.MethodName) jdk_42_method_154_code (1 : Nat) (Option.some Jvm.ClassFile.FieldType.boolean)).before args0 about1 = true := code_word (m := ⟨9, 2⟩) (meth := k9m2) (c := k9c2) (by decide +kernel) rfl rfl rfl (by decide +kernel)
set_option maxRecDepth 65536 in
theorem w_c5 : (Jvm.Cond.code ({ cls := "java/lang/StringLatin1", name := "charAt", desc := "([BI)C" } : Jvm.MethodName) jdk_43_method_2_code (2 : Nat) (Option.some Jvm.ClassFile.FieldType.char)).before args0 about1 = true := code_word (m := ⟨10, 1⟩) (meth := k10m1) (c := k10c1) (by decide +kernel) rfl rfl rfl (by decide +kernel)
set_option maxRecDepth 65536 in
theorem w_c6 : (Jvm.Cond.code ({ cls := "java/lang/String", name := "checkIndex", desc := "(II)V" } : Jvm.MethodName) jdk_42_method_155_code (2 : Nat) (Option.none : Option Jvm.ClassFile.FieldType)).before args0 about1 = true := code_word (m := ⟨9, 3⟩) (meth := k9m3) (c := k9c3) (by decide +kernel) rfl rfl rfl (by decide +kernel)
set_option maxRecDepth 65536 in
theorem w_c7 : (Jvm.Cond.code ({ cls := "jdk/internal/util/Preconditions", name := "checkIndex", desc := "(IILjava/util/function/BiFunction;)I" } : Jvm.MethodName) jdk_41_method_11_code (3 : Nat) (Option.some Jvm.ClassFile.FieldType.int)).before args0 about1 = true := code_word (m := ⟨11, 1⟩) (meth := k11m1) (c := k11c1) (by decide +kernel) rfl rfl rfl (by decide +kernel)
def codes1 : List Jvm.Cond := [Jvm.Cond.code x code maxLocals ret, Jvm.Cond.code ({ cls := "com/example/minilingua/minilingua/lang/badkode/Operation", name := "spelled", desc := "(C)Lcom/example/minilingua/minilingua/lang/badkode/Operation;" } : Jvm.MethodName) prog_101_method_4_code (5 : Nat) (Option.some (Jvm.ClassFile.FieldType.object "com/example/minilingua/minilingua/lang/badkode/Operation")), Jvm.Cond.code ({ cls := "com/example/minilingua/minilingua/lang/badkode/OperationSpelledPinLaw", name := "expected", desc := "(C)Lcom/example/minilingua/minilingua/lang/badkode/Operation;" } : Jvm.MethodName) method_2_code (1 : Nat) (Option.some (Jvm.ClassFile.FieldType.object "com/example/minilingua/minilingua/lang/badkode/Operation")), Jvm.Cond.code ({ cls := "java/lang/String", name := "charAt", desc := "(I)C" } : Jvm.MethodName) jdk_42_method_56_code (2 : Nat) (Option.some Jvm.ClassFile.FieldType.char), Jvm.Cond.code ({ cls := "java/lang/String", name := "isLatin1", desc := "()Z" } : Jvm.MethodName) jdk_42_method_154_code (1 : Nat) (Option.some Jvm.ClassFile.FieldType.boolean), Jvm.Cond.code ({ cls := "java/lang/StringLatin1", name := "charAt", desc := "([BI)C" } : Jvm.MethodName) jdk_43_method_2_code (2 : Nat) (Option.some Jvm.ClassFile.FieldType.char), Jvm.Cond.code ({ cls := "java/lang/String", name := "checkIndex", desc := "(II)V" } : Jvm.MethodName) jdk_42_method_155_code (2 : Nat) (Option.none : Option Jvm.ClassFile.FieldType), Jvm.Cond.code ({ cls := "jdk/internal/util/Preconditions", name := "checkIndex", desc := "(IILjava/util/function/BiFunction;)I" } : Jvm.MethodName) jdk_41_method_11_code (3 : Nat) (Option.some Jvm.ClassFile.FieldType.int)]
set_option maxRecDepth 65536 in
theorem codes_eq : words1.filter isCode = codes1 := rfl
theorem w_codes : ∀ c ∈ words1.filter isCode, c.before args0 about1 = true := by
  rw [codes_eq]
  intro c hc
  simp only [codes1, List.mem_cons, List.not_mem_nil, or_false] at hc
  rcases hc with rfl | rfl | rfl | rfl | rfl | rfl | rfl | rfl
  · exact w_c0
  · exact w_c1
  · exact w_c2
  · exact w_c3
  · exact w_c4
  · exact w_c5
  · exact w_c6
  · exact w_c7
set_option maxRecDepth 65536 in
theorem w_t1 : (words1.take 24).all (fun c => isCode c || c.before args0 about1) = true := by decide +kernel
set_option maxRecDepth 65536 in
theorem w_t2 : ((words1.drop 24).take 24).all (fun c => isCode c || c.before args0 about1) = true := by decide +kernel
set_option maxRecDepth 65536 in
theorem w_t3 : ((words1.drop 24).drop 24).all (fun c => isCode c || c.before args0 about1) = true := by decide +kernel
theorem w_tables : (allAtoms (Jvm.Cond.code x code maxLocals ret :: tables_1)).before args0 about1 = true := by
  rw [allAtoms_all]
  show words1.all (fun c => c.before args0 about1) = true
  refine all_split ?_ w_codes
  rw [← List.take_append_drop 24 words1, List.all_append, w_t1, ← List.take_append_drop 24 (words1.drop 24), List.all_append, w_t2, w_t3]
  rfl
set_option maxRecDepth 65536 in
theorem w_rest : rest_1_c.before args0 about1 = true := by decide +kernel
set_option maxRecDepth 65536 in
theorem w_case : (Jvm.Cond.and given_1 narrow_1).before args0 about1 = true := by decide +kernel
set_option maxRecDepth 65536 in
theorem w_consts : constsHeld consts_1 about1 := Jvm.Lit.constsHeldB_iff.mp (by decide +kernel)
theorem w_applies : (headSpec (Jvm.Cond.code x code maxLocals ret :: tables_1) room_1).applies x e0.platform about1 = true :=
  (Spec.applies_iff w_frames).mpr ⟨w_running, w_runnable, w_alone, w_named, w_hears, w_ripe, w_room, w_tables⟩
theorem atStart : AtStart classFile x code maxLocals ret World_1 tables_1 room_1 Calls_1 rest_1 Pre_1 launch0 p0 e0 about1 theMethod args0 below0 :=
  ⟨lists_1, trivial, launch0.admits_env _ _ _, launch0.least_env, fairChoices_fair.cas, fairChoices_fair.clock, w_frames, w_args, w_heap, w_applies, ⟨w_consts, trivial⟩, w_rest, w_case⟩
end start1
theorem witness_1 : WitnessClaimed_1 := ⟨start1.p0, start1.e0, start1.about1, start1.theMethod, start1.args0, start1.below0, start1.atStart⟩
end Jvm.Pilot.@@N@@
