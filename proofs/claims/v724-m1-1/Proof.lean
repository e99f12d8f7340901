import JvmDerived
import JvmDerived.Pilot.@@N@@Statement
import JvmDerived.Pilot.@@N@@Code
set_option linter.unusedVariables false
set_option linter.unusedSimpArgs false
namespace Jvm.Pilot.@@N@@
open Jvm Jvm.ClassFile Sem Op Lib Jvm.Free Jvm.Stand Jvm.LawKit Jvm.RoadKit Bundle Jvm.Pilot.@@N@@.Jvm.D
/-- from U the run comes to a state of which K holds -/
def own_Go (tb : Tables) (e : Env) (below : List Frame) (K : State → Prop) (U : State) : Prop := ∃ t, Steps tb e below U t ∧ K t
theorem own_by {tb : Tables} {e : Env} {below : List Frame} {K : State → Prop} {U U' : State} (k : ∀ t, Steps tb e below U' t → Steps tb e below U t) (h : own_Go tb e below K U') : own_Go tb e below K U := by
  obtain ⟨t, a, b⟩ := h
  exact ⟨t, k t a, b⟩
/-- what a returning instruction needs: the frames that it leaves, and that K holds there -/
def own_Out (e : Env) (m : MethodId) (K : State → Prop) (T : State) (v : Option Value) : Prop := ∃ fs, (∀ (f : JFrame) (acts : List Action), f.method = m → f.locked = none → f.entered = [] → (doReturn e (T.setTop f) acts v).1 = T.setFrames fs) ∧ K (T.setFrames fs)
theorem own_met {l : Launch} {y : MethodName} {bytes : ByteArray} {ml : Nat} {ret : Option FieldType} {ws : List Jvm.Cond} {rm : Room} {as' : Array Value} {Z : State} {h0 : Heap} {k n : Nat} {Q : Option Value → Heap → List Loc → Prop} (hp : plainFor y = true)
    (body : ∀ (p : Program) (e : Env) (s : State) (m : MethodId) (below : List Frame) (meth : Method) (c : Code) (s₁ : State) (K : State → Prop), p.tables.exec = Jvm.exec → c.code = bytes → c.maxLocals = ml → s.vm.findClass y.cls = some m.cls → meth.name = y.name → meth.sig.returnType = ret →
      Z.Warmed39 s.vm → Stand p l e rm s m as' below meth c s₁ [] 0 0 → s₁.heap = h0 →
      (∀ (v : Option Value) {T : State} {L : List Loc} {k' n' : Nat}, Stand p l e rm s m as' below meth c T L k' n' → (meth.sig.returnType = none → v = none) → Q v T.heap L → k' ≤ k → n' ≤ n → own_Out e m K T v) →
      own_Go p.tables e below K (s₁.setTop (entryFrame m as' ml))) :
    MetFree l y (head1 (Jvm.Cond.code y bytes ml ret :: ws) rm) (fun a U => a = as' ∧ Z.Warmed39 U.vm ∧ U.heap = h0) (fun _ _ _ _ _ => True) (fun _ U o U' => ∃ v L, o = .returned v ∧ Q v U'.heap L ∧ FrameEnd U o U' L k n) := by
  refine MetFree.of_bodySF hp hisR ?_
  intro p e s m args below meth c s₁ Bd hml0 hP hK
  obtain ⟨rfl, hZ, hh⟩ := hP
  have hown : s.vm.findClass y.cls = some m.cls := findClass_of_methodNamed Bd.named
  obtain ⟨t, hs, o, h1, h2, h3⟩ := body p e s m below meth c s₁ (fun t => ∃ o, t.status = .running ∧ Ended t below o ∧ ∃ v L, o = .returned v ∧ Q v t.heap L ∧ FrameEnd s o t L k n) Bd.exec Bd.bytes hml0 hown (name_of_methodNamed Bd.named Bd.method).1 Bd.returns hZ (Stand.of_body Bd) (by rw [← hh, Bd.state]; rfl) (by
    intro v T L k' n' X hv hq hk hn
    obtain ⟨fs, hr, hrun, hended, hW, hsame⟩ := X.leave (v := v) hv
    exact ⟨fs, hr, _, hrun, hended, v, L, rfl, hq, ⟨_, rfl⟩, hW, hsame.mono hk hn⟩)
  exact ⟨t, o, hs, h1, h2, h3⟩
section OwnRet
variable {p : Program} {l : Launch} {e : Env} {R : Room} {s : State} {m : MethodId} {args : Array Value} {below : List Frame} {meth : Method} {c : Code} {T : State} {locs : List Loc} {cells slots : Nat} {K : State → Prop}
theorem own_retI (X : Stand p l e R s m args below meth c T locs cells slots) (hx : p.tables.exec = Jvm.exec) (hret : meth.sig.returnType = some .int) {pc : Nat} {Ls : Array Slot} {z : Int32} {rest : List Value} (hd : decode c.code pc = .ok (.ireturn, 1)) (hq : own_Out e m K T (some (.int z))) : own_Go p.tables e below K (T.setTop (mkF m pc Ls (.int z :: rest))) := by
  obtain ⟨fs, hr, hk⟩ := hq
  exact ⟨_, retOut X hx hret rfl (Or.inl ⟨rfl, Or.inl rfl, _, rfl⟩) hd hr, hk⟩
theorem own_retZ (X : Stand p l e R s m args below meth c T locs cells slots) (hx : p.tables.exec = Jvm.exec) {t : FieldType} (hret : meth.sig.returnType = some t) (ht : t = .boolean ∨ t = .byte ∨ t = .char ∨ t = .short) {pc : Nat} {Ls : Array Slot} {z : Int32} {rest : List Value} (hd : decode c.code pc = .ok (.ireturn, 1)) (hq : own_Out e m K T (some (.int (nar t z)))) : own_Go p.tables e below K (T.setTop (mkF m pc Ls (.int z :: rest))) := by
  obtain ⟨fs, hr, hk⟩ := hq
  exact ⟨_, retN X hx hret ht hd hr, hk⟩
theorem own_retJ (X : Stand p l e R s m args below meth c T locs cells slots) (hx : p.tables.exec = Jvm.exec) (hret : meth.sig.returnType = some .long) {pc : Nat} {Ls : Array Slot} {z : Int64} {rest : List Value} (hd : decode c.code pc = .ok (.lreturn, 1)) (hq : own_Out e m K T (some (.long z))) : own_Go p.tables e below K (T.setTop (mkF m pc Ls (.long z :: rest))) := by
  obtain ⟨fs, hr, hk⟩ := hq
  exact ⟨_, retOut X hx hret rfl (Or.inr (Or.inl ⟨rfl, rfl, _, rfl⟩)) hd hr, hk⟩
theorem own_retA (X : Stand p l e R s m args below meth c T locs cells slots) (hx : p.tables.exec = Jvm.exec) {t : FieldType} (hret : meth.sig.returnType = some t) (ht : t.isReference = true) {pc : Nat} {Ls : Array Slot} {w : Value} {rest : List Value} (hn : narrow t w = w) (hw : w.isRef = true) (hd : decode c.code pc = .ok (.areturn, 1)) (hq : own_Out e m K T (some w)) : own_Go p.tables e below K (T.setTop (mkF m pc Ls (w :: rest))) := by
  obtain ⟨fs, hr, hk⟩ := hq
  exact ⟨_, retOut X hx hret hn (Or.inr (Or.inr (Or.inr (Or.inr ⟨rfl, ht, hw⟩)))) hd hr, hk⟩
theorem own_retV (X : Stand p l e R s m args below meth c T locs cells slots) (hx : p.tables.exec = Jvm.exec) (hret : meth.sig.returnType = none) {pc : Nat} {Ls : Array Slot} (hd : decode c.code pc = .ok (.return_, 1)) (hq : own_Out e m K T none) : own_Go p.tables e below K (T.setTop (mkF m pc Ls [])) := by
  obtain ⟨fs, hr, hk⟩ := hq
  exact ⟨_, X.returnOut hx hret hd hr, hk⟩
end OwnRet
theorem own_nar {C : String} {w : Value} (h : w.isRef = true) : narrow (.object C) w = w := by cases w <;> rfl
theorem own_fit {C : String} {w : Value} (h : w.isRef = true) : fits (.object C) w = true := by cases w <;> first | rfl | (simp [Value.isRef] at h)
theorem own_more {p : Program} {l : Launch} {e : Env} {R : Room} {s : State} {m : MethodId} {args : Array Value} {below : List Frame} {meth : Method} {c : Code} {T : State} {locs : List Loc} {k n k' n' : Nat} (X : Stand p l e R s m args below meth c T locs k n) (hk : k ≤ k') (hn : n ≤ n') : Stand p l e R s m args below meth c T locs k' n' := { X with same := X.same.mono hk hn }
/-- a condition as 0 or 1 -/
def own_tern (x : Int32) : Int32 := if x = 0 then 0 else 1
theorem own_t0 {x : Int32} (h : x = 0) : own_tern x = 0 := if_pos h
theorem own_t1 {x : Int32} (h : ¬ x = 0) : own_tern x = 1 := if_neg h
theorem own_t01 (x : Int32) : own_tern x = 0 ∨ own_tern x = 1 := by unfold own_tern; split <;> simp
theorem own_nb {x : Int32} (h : x = 0 ∨ x = 1) : nar .boolean x = x := by rcases h with rfl | rfl <;> rfl
theorem own_b53 (x : Int32) : B53 x.toInt64 := by
  have h1 := x.toInt_lt; have h2 := x.le_toInt
  unfold B53
  rw [Int32.toInt_toInt64]
  omega
theorem own_i64 (x y : Int32) : x.toInt64 < y.toInt64 ↔ x < y := by rw [Int64.lt_iff_toInt_lt, Int32.lt_iff_toInt_lt, Int32.toInt_toInt64, Int32.toInt_toInt64]
theorem own_ni {x y : Int32} (h : ¬ x = y) {n : Int} (e : y.toInt = n) : ¬ x.toInt = n := fun q => h (Int32.toInt_inj.mp (q.trans e.symm))
theorem own_llt {x y : Int64} (h : x < y) : ifCond.holds .lt (lcmpW x y) = true ∧ ifCond.holds .ge (lcmpW x y) = false := by
  have q := tlt (by rw [lcW]; exact (lc_lt x y).mpr h : lcmpW x y < 0)
  exact ⟨(if0 _ _).trans q.1, (if0 _ _).trans q.2.1⟩
theorem own_lge {x y : Int64} (h : ¬ x < y) : ifCond.holds .lt (lcmpW x y) = false ∧ ifCond.holds .ge (lcmpW x y) = true := by
  have q := flt (by rw [lcW]; exact fun z => h ((lc_lt x y).mp z) : ¬ lcmpW x y < 0)
  exact ⟨(if0 _ _).trans q.1, (if0 _ _).trans q.2.1⟩
theorem own_lgt {x y : Int64} (h : y < x) : ifCond.holds .gt (lcmpW x y) = true ∧ ifCond.holds .le (lcmpW x y) = false := by
  have q := tlt (by rw [lcW]; exact (lc_gt x y).mpr h : 0 < lcmpW x y)
  exact ⟨(if0 _ _).trans q.2.2.1, (if0 _ _).trans q.2.2.2⟩
theorem own_lle {x y : Int64} (h : ¬ y < x) : ifCond.holds .gt (lcmpW x y) = false ∧ ifCond.holds .le (lcmpW x y) = true := by
  have q := flt (by rw [lcW]; exact fun z => h ((lc_gt x y).mp z) : ¬ 0 < lcmpW x y)
  exact ⟨(if0 _ _).trans q.2.2.1, (if0 _ _).trans q.2.2.2⟩
theorem own_leq {x y : Int64} (h : x = y) : ifCond.holds .eq (lcmpW x y) = true ∧ ifCond.holds .ne (lcmpW x y) = false := by
  have q := teq (by rw [lcW]; exact (lc_eq x y).mpr h : lcmpW x y = 0)
  exact ⟨(if0 _ _).trans q.1, (if0 _ _).trans q.2⟩
theorem own_lne {x y : Int64} (h : ¬ x = y) : ifCond.holds .eq (lcmpW x y) = false ∧ ifCond.holds .ne (lcmpW x y) = true := by
  have q := feq (by rw [lcW]; exact fun z => h ((lc_eq x y).mp z) : ¬ lcmpW x y = 0)
  exact ⟨(if0 _ _).trans q.1, (if0 _ _).trans q.2⟩
theorem own_eqR {args : Array Value} {s : State} {t u : Term} {a : Addr} (h : (Jvm.Cond.eq t u).value args s none s [] = some true) (hu : u.eval args s none [] s = some (.ref a)) : t.eval args s none [] s = some (.ref a) := by
  obtain ⟨x, y, ex, ey, k1, k2⟩ := cmp_v (Or.inl h)
  obtain rfl : y = .ref a := Option.some.inj (ey.symm.trans hu)
  have hx : x.isRef = true := k2.2
  have e := gotT (eq_R ex ey hx rfl) h
  rw [ex, e]
theorem own_eqI {args : Array Value} {s : State} {t : Term} {n : Int32} (h : (Jvm.Cond.eq t (.int n)).value args s none s [] = some true) : t.eval args s none [] s = some (.int n) := by
  obtain ⟨x, y, ex, ey, k1, k2⟩ := cmp_v (Or.inl h)
  obtain rfl : y = .int n := Option.some.inj (ey.symm.trans (Term.int_eval n))
  obtain ⟨z, rfl⟩ := k2
  have e := gotT (Cond.eq_ints ex (Term.int_eval n)) h
  rw [ex, e]
theorem own_len {args : Array Value} {s : State} {t : Term} {n : Int32} {a : Addr} {cl : Cell} {ty : FieldType} (h : (Jvm.Cond.eq (.length t) (.int n)).value args s none s [] = some true) (ht : t.eval args s none [] s = some (.ref a)) (A : Arr s s.heap a cl ty) : cl.slots.size.toInt32 = n := by
  obtain ⟨a', c', e1, e2, e3⟩ := Term.length_spec (own_eqI h)
  cases ht.symm.trans e1
  cases (Arr.fin (State.Warmed39.refl s).alike A).symm.trans e2
  cases e3
  rfl
def own_pick (q : Int32) (a0 a1 a2 a3 : Addr) : Value := if (61 : Int32) = q then .ref a0 else if (33 : Int32) = q then .ref a1 else if (43 : Int32) = q then .ref a2 else if (45 : Int32) = q then .ref a3 else .null
/-- the constants, as the array ALL holds them -/
def own_En (Z : State) (h : Heap) (ar : Addr) (cl : Cell) (a0 a1 a2 a3 : Addr) : Prop := (Sta Z h "com/example/minilingua/minilingua/lang/badkode/Condition" "ALL" "[Lcom/example/minilingua/minilingua/lang/badkode/Condition;" (.ref ar)) ∧ (Arr Z h ar cl (.object "com/example/minilingua/minilingua/lang/badkode/Condition")) ∧ (cl.slots.size.toInt32 = 4) ∧ ((¬ ((0 : Int32) < 0 ∨ cl.slots.size ≤ (0 : Int32).toNatClampNeg)) ∧ cl.slots[(0 : Int32).toNatClampNeg]? = some (.ref a0)) ∧ (Fld Z h a0 "com/example/minilingua/minilingua/lang/badkode/Condition" "symbol" "C" (.int 61)) ∧ ((¬ ((1 : Int32) < 0 ∨ cl.slots.size ≤ (1 : Int32).toNatClampNeg)) ∧ cl.slots[(1 : Int32).toNatClampNeg]? = some (.ref a1)) ∧ (Fld Z h a1 "com/example/minilingua/minilingua/lang/badkode/Condition" "symbol" "C" (.int 33)) ∧ ((¬ ((2 : Int32) < 0 ∨ cl.slots.size ≤ (2 : Int32).toNatClampNeg)) ∧ cl.slots[(2 : Int32).toNatClampNeg]? = some (.ref a2)) ∧ (Fld Z h a2 "com/example/minilingua/minilingua/lang/badkode/Condition" "symbol" "C" (.int 43)) ∧ ((¬ ((3 : Int32) < 0 ∨ cl.slots.size ≤ (3 : Int32).toNatClampNeg)) ∧ cl.slots[(3 : Int32).toNatClampNeg]? = some (.ref a3)) ∧ (Fld Z h a3 "com/example/minilingua/minilingua/lang/badkode/Condition" "symbol" "C" (.int 45))
theorem own_pn1 : plainName "com/example/minilingua/minilingua/lang/badkode/Condition" = true := by first | (simp [plainName, overriddenIn]; done) | decide +kernel
theorem own_d1_0 : decode prog_94_method_4_code 0 = .ok (.getstatic 39, 3) := by decide +kernel
theorem own_d1_3 : decode prog_94_method_4_code 3 = .ok (.astore_n 1, 1) := by decide +kernel
theorem own_d1_4 : decode prog_94_method_4_code 4 = .ok (.aload_n 1, 1) := by decide +kernel
theorem own_d1_5 : decode prog_94_method_4_code 5 = .ok (.arraylength, 1) := by decide +kernel
theorem own_d1_6 : decode prog_94_method_4_code 6 = .ok (.istore_n 2, 1) := by decide +kernel
theorem own_d1_7 : decode prog_94_method_4_code 7 = .ok (.iconst 0, 1) := by decide +kernel
theorem own_d1_8 : decode prog_94_method_4_code 8 = .ok (.istore_n 3, 1) := by decide +kernel
theorem own_d1_9 : decode prog_94_method_4_code 9 = .ok (.iload_n 3, 1) := by decide +kernel
theorem own_d1_10 : decode prog_94_method_4_code 10 = .ok (.iload_n 2, 1) := by decide +kernel
theorem own_d1_11 : decode prog_94_method_4_code 11 = .ok (.if_icmp .ge 26, 3) := by decide +kernel
theorem own_d1_14 : decode prog_94_method_4_code 14 = .ok (.aload_n 1, 1) := by decide +kernel
theorem own_d1_15 : decode prog_94_method_4_code 15 = .ok (.iload_n 3, 1) := by decide +kernel
theorem own_d1_16 : decode prog_94_method_4_code 16 = .ok (.aaload, 1) := by decide +kernel
theorem own_d1_17 : decode prog_94_method_4_code 17 = .ok (.astore 4, 2) := by decide +kernel
theorem own_d1_19 : decode prog_94_method_4_code 19 = .ok (.aload 4, 2) := by decide +kernel
theorem own_d1_21 : decode prog_94_method_4_code 21 = .ok (.getfield 35, 3) := by decide +kernel
theorem own_d1_24 : decode prog_94_method_4_code 24 = .ok (.iload_n 0, 1) := by decide +kernel
theorem own_d1_25 : decode prog_94_method_4_code 25 = .ok (.if_icmp .ne 6, 3) := by decide +kernel
theorem own_d1_28 : decode prog_94_method_4_code 28 = .ok (.aload 4, 2) := by decide +kernel
theorem own_d1_30 : decode prog_94_method_4_code 30 = .ok (.areturn, 1) := by decide +kernel
theorem own_d1_31 : decode prog_94_method_4_code 31 = .ok (.iinc 3 1, 3) := by decide +kernel
theorem own_d1_34 : decode prog_94_method_4_code 34 = .ok (.goto (-25), 3) := by decide +kernel
theorem own_d1_37 : decode prog_94_method_4_code 37 = .ok (.aconst_null, 1) := by decide +kernel
theorem own_d1_38 : decode prog_94_method_4_code 38 = .ok (.areturn, 1) := by decide +kernel
theorem own_efS (m : MethodId) (q1 : Int32) : entryFrame m #[(.int q1)] 5 = mkF m 0 #[.val (.int q1), .unset, .unset, .unset, .unset] [] := by first | (simp [entryFrame, mkF, argsToLocals, Value.category]; done) | rfl
def own_QS (Z : State) (q1 : Int32) (ar : Addr) (cl : Cell) (a0 : Addr) (a1 : Addr) (a2 : Addr) (a3 : Addr) (h0 : Heap) (n0 : Nat) (v : Option Value) (h : Heap) (L : List Loc) : Prop := v = some (own_pick q1 a0 a1 a2 a3) ∧ Fr n0 L ∧ h = h0
set_option maxRecDepth 65536 in
set_option maxHeartbeats 40000000 in
theorem own_rmS (l : Launch) (Z : State) (aw : Array Value) (hw : ∀ d ∈ tables_1, d.before aw Z = true) (ws : List Jvm.Cond) (q1 : Int32) (ar : Addr) (cl : Cell) (a0 : Addr) (a1 : Addr) (a2 : Addr) (a3 : Addr) (h0 : Heap) (n0 : Nat) (Z0 : n0 ≤ h0.size) (hE : own_En Z h0 ar cl a0 a1 a2 a3) :
    MetFree l (⟨"com/example/minilingua/minilingua/lang/badkode/Condition", "spelled", "(C)Lcom/example/minilingua/minilingua/lang/badkode/Condition;"⟩ : MethodName) (head1 (Jvm.Cond.code (⟨"com/example/minilingua/minilingua/lang/badkode/Condition", "spelled", "(C)Lcom/example/minilingua/minilingua/lang/badkode/Condition;"⟩ : MethodName) prog_94_method_4_code 5 (some (.object "com/example/minilingua/minilingua/lang/badkode/Condition")) :: ws) ({ frames := 0, cells := 0, slots := 0, locals := 0 } : Room)) (fun a U => a = #[(.int q1)] ∧ Z.Warmed39 U.vm ∧ U.heap = h0) (fun _ _ _ _ _ => True) (fun _ U o U' => ∃ v L, o = .returned v ∧ own_QS Z q1 ar cl a0 a1 a2 a3 h0 n0 v U'.heap L ∧ FrameEnd U o U' L ({ frames := 0, cells := 0, slots := 0, locals := 0 } : Room).cells ({ frames := 0, cells := 0, slots := 0, locals := 0 } : Room).slots) := by
  refine own_met (Q := own_QS Z q1 ar cl a0 a1 a2 a3 h0 n0) (plainFor_of_name own_pn1) ?_
  intro p e s m below meth c s₁ K hx hby hml hown hnm hret hZ X0 e0 hK
  have hown : s.vm.findClass "com/example/minilingua/minilingua/lang/badkode/Condition" = some m.cls := hown
  have N0 := Fr.nil n0
  refine own_by (fun t k => castTop (own_efS m q1) k) ?_
  obtain ⟨hAll, hAr, hlen, hi0, hF0, hi1, hF1, hi2, hF2, hi3, hF3⟩ := hE
  show own_Go p.tables e below K (s₁.setTop (mkF m 0 #[.val (.int q1), .unset, .unset, .unset, .unset] []))
  obtain ⟨T1, X1, e1, st1⟩ := getS2 X0 hx hZ hown (host := "") (Or.inl (hw _ (List.mem_of_getElem? (i := 5) rfl))) Via.refl e0 hAll (g := (mkF m 0 #[.val (.int q1), .unset, .unset, .unset, .unset] [])) rfl (hb hby own_d1_0)
  refine own_by st1 ?_
  show own_Go p.tables e below K (T1.setTop (mkF m 3 #[.val (.int q1), .unset, .unset, .unset, .unset] [(.ref ar)]))
  refine own_by (fun t k => XS.astoreN X1.here hx rfl (hb hby own_d1_3) rfl rfl (l' := #[.val (.int q1), .val (.ref ar), .unset, .unset, .unset]) rfl k) ?_
  show own_Go p.tables e below K (T1.setTop (mkF m 4 #[.val (.int q1), .val (.ref ar), .unset, .unset, .unset] []))
  refine own_by (fun t k => XS.aloadN X1.here hx rfl (hb hby own_d1_4) rfl rfl k) ?_
  show own_Go p.tables e below K (T1.setTop (mkF m 5 #[.val (.int q1), .val (.ref ar), .unset, .unset, .unset] [(.ref ar)]))
  refine own_by (fun t k => X1.arraylength hx (by rw [e1]; exact hAr.1) (State.isArrayOf_alike hZ.alike hAr.2.1) (g := (mkF m 5 #[.val (.int q1), .val (.ref ar), .unset, .unset, .unset] [(.ref ar)])) rfl rfl (hb hby own_d1_5) t k) ?_
  rw [hlen]
  show own_Go p.tables e below K (T1.setTop (mkF m 6 #[.val (.int q1), .val (.ref ar), .unset, .unset, .unset] [(.int (4 : Int32))]))
  refine own_by (fun t k => XS.istoreN X1.here hx rfl (hb hby own_d1_6) rfl (l' := #[.val (.int q1), .val (.ref ar), .val (.int (4 : Int32)), .unset, .unset]) rfl k) ?_
  show own_Go p.tables e below K (T1.setTop (mkF m 7 #[.val (.int q1), .val (.ref ar), .val (.int (4 : Int32)), .unset, .unset] []))
  refine own_by (fun t k => XS.iconst X1.here hx rfl (hb hby own_d1_7) k) ?_
  show own_Go p.tables e below K (T1.setTop (mkF m 8 #[.val (.int q1), .val (.ref ar), .val (.int (4 : Int32)), .unset, .unset] [(.int (0 : Int32))]))
  refine own_by (fun t k => XS.istoreN X1.here hx rfl (hb hby own_d1_8) rfl (l' := #[.val (.int q1), .val (.ref ar), .val (.int (4 : Int32)), .val (.int (0 : Int32)), .unset]) rfl k) ?_
  show own_Go p.tables e below K (T1.setTop (mkF m 9 #[.val (.int q1), .val (.ref ar), .val (.int (4 : Int32)), .val (.int (0 : Int32)), .unset] []))
  refine own_by (fun t k => XS.iloadN X1.here hx rfl (hb hby own_d1_9) rfl k) ?_
  show own_Go p.tables e below K (T1.setTop (mkF m 10 #[.val (.int q1), .val (.ref ar), .val (.int (4 : Int32)), .val (.int (0 : Int32)), .unset] [(.int (0 : Int32))]))
  refine own_by (fun t k => XS.iloadN X1.here hx rfl (hb hby own_d1_10) rfl k) ?_
  show own_Go p.tables e below K (T1.setTop (mkF m 11 #[.val (.int q1), .val (.ref ar), .val (.int (4 : Int32)), .val (.int (0 : Int32)), .unset] [(.int (4 : Int32)), (.int (0 : Int32))]))
  have hc11 : (0 : Int32) < (4 : Int32) := by decide
  refine own_by (fun t k => XS.icmpNo X1.here hx rfl (hb hby own_d1_11) rfl (tlt hc11).2.1 k) ?_
  show own_Go p.tables e below K (T1.setTop (mkF m 14 #[.val (.int q1), .val (.ref ar), .val (.int (4 : Int32)), .val (.int (0 : Int32)), .unset] []))
  refine own_by (fun t k => XS.aloadN X1.here hx rfl (hb hby own_d1_14) rfl rfl k) ?_
  show own_Go p.tables e below K (T1.setTop (mkF m 15 #[.val (.int q1), .val (.ref ar), .val (.int (4 : Int32)), .val (.int (0 : Int32)), .unset] [(.ref ar)]))
  refine own_by (fun t k => XS.iloadN X1.here hx rfl (hb hby own_d1_15) rfl k) ?_
  show own_Go p.tables e below K (T1.setTop (mkF m 16 #[.val (.int q1), .val (.ref ar), .val (.int (4 : Int32)), .val (.int (0 : Int32)), .unset] [(.int (0 : Int32)), (.ref ar)]))
  refine own_by (fun t k => X1.aaload hx (j := (0 : Int32)) (v := .ref a0) (by rw [e1]; exact hAr.1) (State.isArrayOf_alike hZ.alike hAr.2.1) rfl hAr.2.2 hi0.1 hi0.2 (g := (mkF m 16 #[.val (.int q1), .val (.ref ar), .val (.int (4 : Int32)), .val (.int (0 : Int32)), .unset] [(.int (0 : Int32)), (.ref ar)])) rfl rfl (hb hby own_d1_16) t k) ?_
  show own_Go p.tables e below K (T1.setTop (mkF m 17 #[.val (.int q1), .val (.ref ar), .val (.int (4 : Int32)), .val (.int (0 : Int32)), .unset] [(.ref a0)]))
  refine own_by (fun t k => XS.astore X1.here hx rfl (hb hby own_d1_17) rfl rfl (l' := #[.val (.int q1), .val (.ref ar), .val (.int (4 : Int32)), .val (.int (0 : Int32)), .val (.ref a0)]) rfl k) ?_
  show own_Go p.tables e below K (T1.setTop (mkF m 19 #[.val (.int q1), .val (.ref ar), .val (.int (4 : Int32)), .val (.int (0 : Int32)), .val (.ref a0)] []))
  refine own_by (fun t k => XS.aload X1.here hx rfl (hb hby own_d1_19) rfl rfl k) ?_
  show own_Go p.tables e below K (T1.setTop (mkF m 21 #[.val (.int q1), .val (.ref ar), .val (.int (4 : Int32)), .val (.int (0 : Int32)), .val (.ref a0)] [(.ref a0)]))
  obtain ⟨T2, X2, e2, st2⟩ := getF X1 hx hZ hown (host := "") (Or.inl (hw _ (List.mem_of_getElem? (i := 8) rfl))) Via.refl e1 hF0 (g := (mkF m 21 #[.val (.int q1), .val (.ref ar), .val (.int (4 : Int32)), .val (.int (0 : Int32)), .val (.ref a0)] [(.ref a0)])) rfl rfl (hb hby own_d1_21)
  refine own_by st2 ?_
  show own_Go p.tables e below K (T2.setTop (mkF m 24 #[.val (.int q1), .val (.ref ar), .val (.int (4 : Int32)), .val (.int (0 : Int32)), .val (.ref a0)] [(.int (61 : Int32))]))
  refine own_by (fun t k => XS.iloadN X2.here hx rfl (hb hby own_d1_24) rfl k) ?_
  show own_Go p.tables e below K (T2.setTop (mkF m 25 #[.val (.int q1), .val (.ref ar), .val (.int (4 : Int32)), .val (.int (0 : Int32)), .val (.ref a0)] [(.int q1), (.int (61 : Int32))]))
  by_cases hc25 : (61 : Int32) = q1
  · refine own_by (fun t k => XS.icmpNo X2.here hx rfl (hb hby own_d1_25) rfl (teq hc25).2 k) ?_
    show own_Go p.tables e below K (T2.setTop (mkF m 28 #[.val (.int q1), .val (.ref ar), .val (.int (4 : Int32)), .val (.int (0 : Int32)), .val (.ref a0)] []))
    refine own_by (fun t k => XS.aload X2.here hx rfl (hb hby own_d1_28) rfl rfl k) ?_
    show own_Go p.tables e below K (T2.setTop (mkF m 30 #[.val (.int q1), .val (.ref ar), .val (.int (4 : Int32)), .val (.int (0 : Int32)), .val (.ref a0)] [(.ref a0)]))
    exact own_retA X2 hx hret rfl rfl rfl (hb hby own_d1_30) (hK (some (.ref a0)) X2 (fun h => by rw [hret] at h; cases h) (⟨by simp [own_pick, *], N0, e2⟩) (by decide) (by decide))
  · refine own_by (fun t k => XS.icmpYes X2.here hx rfl (pc0 := 25) (pc' := 31) rfl (hb hby own_d1_25) rfl (feq hc25).2 (by decide) (by decide) k) ?_
    show own_Go p.tables e below K (T2.setTop (mkF m 31 #[.val (.int q1), .val (.ref ar), .val (.int (4 : Int32)), .val (.int (0 : Int32)), .val (.ref a0)] []))
    refine own_by (fun t k => XS.iinc X2.here hx rfl (hb hby own_d1_31) rfl (l' := #[.val (.int q1), .val (.ref ar), .val (.int (4 : Int32)), .val (.int (1 : Int32)), .val (.ref a0)]) rfl k) ?_
    show own_Go p.tables e below K (T2.setTop (mkF m 34 #[.val (.int q1), .val (.ref ar), .val (.int (4 : Int32)), .val (.int (1 : Int32)), .val (.ref a0)] []))
    refine own_by (fun t k => XS.goto X2.here hx rfl (pc0 := 34) (pc' := 9) rfl (hb hby own_d1_34) (by decide) (by decide) k) ?_
    show own_Go p.tables e below K (T2.setTop (mkF m 9 #[.val (.int q1), .val (.ref ar), .val (.int (4 : Int32)), .val (.int (1 : Int32)), .val (.ref a0)] []))
    refine own_by (fun t k => XS.iloadN X2.here hx rfl (hb hby own_d1_9) rfl k) ?_
    show own_Go p.tables e below K (T2.setTop (mkF m 10 #[.val (.int q1), .val (.ref ar), .val (.int (4 : Int32)), .val (.int (1 : Int32)), .val (.ref a0)] [(.int (1 : Int32))]))
    refine own_by (fun t k => XS.iloadN X2.here hx rfl (hb hby own_d1_10) rfl k) ?_
    show own_Go p.tables e below K (T2.setTop (mkF m 11 #[.val (.int q1), .val (.ref ar), .val (.int (4 : Int32)), .val (.int (1 : Int32)), .val (.ref a0)] [(.int (4 : Int32)), (.int (1 : Int32))]))
    have hc11 : (1 : Int32) < (4 : Int32) := by decide
    refine own_by (fun t k => XS.icmpNo X2.here hx rfl (hb hby own_d1_11) rfl (tlt hc11).2.1 k) ?_
    show own_Go p.tables e below K (T2.setTop (mkF m 14 #[.val (.int q1), .val (.ref ar), .val (.int (4 : Int32)), .val (.int (1 : Int32)), .val (.ref a0)] []))
    refine own_by (fun t k => XS.aloadN X2.here hx rfl (hb hby own_d1_14) rfl rfl k) ?_
    show own_Go p.tables e below K (T2.setTop (mkF m 15 #[.val (.int q1), .val (.ref ar), .val (.int (4 : Int32)), .val (.int (1 : Int32)), .val (.ref a0)] [(.ref ar)]))
    refine own_by (fun t k => XS.iloadN X2.here hx rfl (hb hby own_d1_15) rfl k) ?_
    show own_Go p.tables e below K (T2.setTop (mkF m 16 #[.val (.int q1), .val (.ref ar), .val (.int (4 : Int32)), .val (.int (1 : Int32)), .val (.ref a0)] [(.int (1 : Int32)), (.ref ar)]))
    refine own_by (fun t k => X2.aaload hx (j := (1 : Int32)) (v := .ref a1) (by rw [e2]; exact hAr.1) (State.isArrayOf_alike hZ.alike hAr.2.1) rfl hAr.2.2 hi1.1 hi1.2 (g := (mkF m 16 #[.val (.int q1), .val (.ref ar), .val (.int (4 : Int32)), .val (.int (1 : Int32)), .val (.ref a0)] [(.int (1 : Int32)), (.ref ar)])) rfl rfl (hb hby own_d1_16) t k) ?_
    show own_Go p.tables e below K (T2.setTop (mkF m 17 #[.val (.int q1), .val (.ref ar), .val (.int (4 : Int32)), .val (.int (1 : Int32)), .val (.ref a0)] [(.ref a1)]))
    refine own_by (fun t k => XS.astore X2.here hx rfl (hb hby own_d1_17) rfl rfl (l' := #[.val (.int q1), .val (.ref ar), .val (.int (4 : Int32)), .val (.int (1 : Int32)), .val (.ref a1)]) rfl k) ?_
    show own_Go p.tables e below K (T2.setTop (mkF m 19 #[.val (.int q1), .val (.ref ar), .val (.int (4 : Int32)), .val (.int (1 : Int32)), .val (.ref a1)] []))
    refine own_by (fun t k => XS.aload X2.here hx rfl (hb hby own_d1_19) rfl rfl k) ?_
    show own_Go p.tables e below K (T2.setTop (mkF m 21 #[.val (.int q1), .val (.ref ar), .val (.int (4 : Int32)), .val (.int (1 : Int32)), .val (.ref a1)] [(.ref a1)]))
    obtain ⟨T3, X3, e3, st3⟩ := getF X2 hx hZ hown (host := "") (Or.inl (hw _ (List.mem_of_getElem? (i := 8) rfl))) Via.refl e2 hF1 (g := (mkF m 21 #[.val (.int q1), .val (.ref ar), .val (.int (4 : Int32)), .val (.int (1 : Int32)), .val (.ref a1)] [(.ref a1)])) rfl rfl (hb hby own_d1_21)
    refine own_by st3 ?_
    show own_Go p.tables e below K (T3.setTop (mkF m 24 #[.val (.int q1), .val (.ref ar), .val (.int (4 : Int32)), .val (.int (1 : Int32)), .val (.ref a1)] [(.int (33 : Int32))]))
    refine own_by (fun t k => XS.iloadN X3.here hx rfl (hb hby own_d1_24) rfl k) ?_
    show own_Go p.tables e below K (T3.setTop (mkF m 25 #[.val (.int q1), .val (.ref ar), .val (.int (4 : Int32)), .val (.int (1 : Int32)), .val (.ref a1)] [(.int q1), (.int (33 : Int32))]))
    by_cases hc25 : (33 : Int32) = q1
    · refine own_by (fun t k => XS.icmpNo X3.here hx rfl (hb hby own_d1_25) rfl (teq hc25).2 k) ?_
      show own_Go p.tables e below K (T3.setTop (mkF m 28 #[.val (.int q1), .val (.ref ar), .val (.int (4 : Int32)), .val (.int (1 : Int32)), .val (.ref a1)] []))
      refine own_by (fun t k => XS.aload X3.here hx rfl (hb hby own_d1_28) rfl rfl k) ?_
      show own_Go p.tables e below K (T3.setTop (mkF m 30 #[.val (.int q1), .val (.ref ar), .val (.int (4 : Int32)), .val (.int (1 : Int32)), .val (.ref a1)] [(.ref a1)]))
      exact own_retA X3 hx hret rfl rfl rfl (hb hby own_d1_30) (hK (some (.ref a1)) X3 (fun h => by rw [hret] at h; cases h) (⟨by simp [own_pick, *], N0, e3⟩) (by decide) (by decide))
    · refine own_by (fun t k => XS.icmpYes X3.here hx rfl (pc0 := 25) (pc' := 31) rfl (hb hby own_d1_25) rfl (feq hc25).2 (by decide) (by decide) k) ?_
      show own_Go p.tables e below K (T3.setTop (mkF m 31 #[.val (.int q1), .val (.ref ar), .val (.int (4 : Int32)), .val (.int (1 : Int32)), .val (.ref a1)] []))
      refine own_by (fun t k => XS.iinc X3.here hx rfl (hb hby own_d1_31) rfl (l' := #[.val (.int q1), .val (.ref ar), .val (.int (4 : Int32)), .val (.int (2 : Int32)), .val (.ref a1)]) rfl k) ?_
      show own_Go p.tables e below K (T3.setTop (mkF m 34 #[.val (.int q1), .val (.ref ar), .val (.int (4 : Int32)), .val (.int (2 : Int32)), .val (.ref a1)] []))
      refine own_by (fun t k => XS.goto X3.here hx rfl (pc0 := 34) (pc' := 9) rfl (hb hby own_d1_34) (by decide) (by decide) k) ?_
      show own_Go p.tables e below K (T3.setTop (mkF m 9 #[.val (.int q1), .val (.ref ar), .val (.int (4 : Int32)), .val (.int (2 : Int32)), .val (.ref a1)] []))
      refine own_by (fun t k => XS.iloadN X3.here hx rfl (hb hby own_d1_9) rfl k) ?_
      show own_Go p.tables e below K (T3.setTop (mkF m 10 #[.val (.int q1), .val (.ref ar), .val (.int (4 : Int32)), .val (.int (2 : Int32)), .val (.ref a1)] [(.int (2 : Int32))]))
      refine own_by (fun t k => XS.iloadN X3.here hx rfl (hb hby own_d1_10) rfl k) ?_
      show own_Go p.tables e below K (T3.setTop (mkF m 11 #[.val (.int q1), .val (.ref ar), .val (.int (4 : Int32)), .val (.int (2 : Int32)), .val (.ref a1)] [(.int (4 : Int32)), (.int (2 : Int32))]))
      have hc11 : (2 : Int32) < (4 : Int32) := by decide
      refine own_by (fun t k => XS.icmpNo X3.here hx rfl (hb hby own_d1_11) rfl (tlt hc11).2.1 k) ?_
      show own_Go p.tables e below K (T3.setTop (mkF m 14 #[.val (.int q1), .val (.ref ar), .val (.int (4 : Int32)), .val (.int (2 : Int32)), .val (.ref a1)] []))
      refine own_by (fun t k => XS.aloadN X3.here hx rfl (hb hby own_d1_14) rfl rfl k) ?_
      show own_Go p.tables e below K (T3.setTop (mkF m 15 #[.val (.int q1), .val (.ref ar), .val (.int (4 : Int32)), .val (.int (2 : Int32)), .val (.ref a1)] [(.ref ar)]))
      refine own_by (fun t k => XS.iloadN X3.here hx rfl (hb hby own_d1_15) rfl k) ?_
      show own_Go p.tables e below K (T3.setTop (mkF m 16 #[.val (.int q1), .val (.ref ar), .val (.int (4 : Int32)), .val (.int (2 : Int32)), .val (.ref a1)] [(.int (2 : Int32)), (.ref ar)]))
      refine own_by (fun t k => X3.aaload hx (j := (2 : Int32)) (v := .ref a2) (by rw [e3]; exact hAr.1) (State.isArrayOf_alike hZ.alike hAr.2.1) rfl hAr.2.2 hi2.1 hi2.2 (g := (mkF m 16 #[.val (.int q1), .val (.ref ar), .val (.int (4 : Int32)), .val (.int (2 : Int32)), .val (.ref a1)] [(.int (2 : Int32)), (.ref ar)])) rfl rfl (hb hby own_d1_16) t k) ?_
      show own_Go p.tables e below K (T3.setTop (mkF m 17 #[.val (.int q1), .val (.ref ar), .val (.int (4 : Int32)), .val (.int (2 : Int32)), .val (.ref a1)] [(.ref a2)]))
      refine own_by (fun t k => XS.astore X3.here hx rfl (hb hby own_d1_17) rfl rfl (l' := #[.val (.int q1), .val (.ref ar), .val (.int (4 : Int32)), .val (.int (2 : Int32)), .val (.ref a2)]) rfl k) ?_
      show own_Go p.tables e below K (T3.setTop (mkF m 19 #[.val (.int q1), .val (.ref ar), .val (.int (4 : Int32)), .val (.int (2 : Int32)), .val (.ref a2)] []))
      refine own_by (fun t k => XS.aload X3.here hx rfl (hb hby own_d1_19) rfl rfl k) ?_
      show own_Go p.tables e below K (T3.setTop (mkF m 21 #[.val (.int q1), .val (.ref ar), .val (.int (4 : Int32)), .val (.int (2 : Int32)), .val (.ref a2)] [(.ref a2)]))
      obtain ⟨T4, X4, e4, st4⟩ := getF X3 hx hZ hown (host := "") (Or.inl (hw _ (List.mem_of_getElem? (i := 8) rfl))) Via.refl e3 hF2 (g := (mkF m 21 #[.val (.int q1), .val (.ref ar), .val (.int (4 : Int32)), .val (.int (2 : Int32)), .val (.ref a2)] [(.ref a2)])) rfl rfl (hb hby own_d1_21)
      refine own_by st4 ?_
      show own_Go p.tables e below K (T4.setTop (mkF m 24 #[.val (.int q1), .val (.ref ar), .val (.int (4 : Int32)), .val (.int (2 : Int32)), .val (.ref a2)] [(.int (43 : Int32))]))
      refine own_by (fun t k => XS.iloadN X4.here hx rfl (hb hby own_d1_24) rfl k) ?_
      show own_Go p.tables e below K (T4.setTop (mkF m 25 #[.val (.int q1), .val (.ref ar), .val (.int (4 : Int32)), .val (.int (2 : Int32)), .val (.ref a2)] [(.int q1), (.int (43 : Int32))]))
      by_cases hc25 : (43 : Int32) = q1
      · refine own_by (fun t k => XS.icmpNo X4.here hx rfl (hb hby own_d1_25) rfl (teq hc25).2 k) ?_
        show own_Go p.tables e below K (T4.setTop (mkF m 28 #[.val (.int q1), .val (.ref ar), .val (.int (4 : Int32)), .val (.int (2 : Int32)), .val (.ref a2)] []))
        refine own_by (fun t k => XS.aload X4.here hx rfl (hb hby own_d1_28) rfl rfl k) ?_
        show own_Go p.tables e below K (T4.setTop (mkF m 30 #[.val (.int q1), .val (.ref ar), .val (.int (4 : Int32)), .val (.int (2 : Int32)), .val (.ref a2)] [(.ref a2)]))
        exact own_retA X4 hx hret rfl rfl rfl (hb hby own_d1_30) (hK (some (.ref a2)) X4 (fun h => by rw [hret] at h; cases h) (⟨by simp [own_pick, *], N0, e4⟩) (by decide) (by decide))
      · refine own_by (fun t k => XS.icmpYes X4.here hx rfl (pc0 := 25) (pc' := 31) rfl (hb hby own_d1_25) rfl (feq hc25).2 (by decide) (by decide) k) ?_
        show own_Go p.tables e below K (T4.setTop (mkF m 31 #[.val (.int q1), .val (.ref ar), .val (.int (4 : Int32)), .val (.int (2 : Int32)), .val (.ref a2)] []))
        refine own_by (fun t k => XS.iinc X4.here hx rfl (hb hby own_d1_31) rfl (l' := #[.val (.int q1), .val (.ref ar), .val (.int (4 : Int32)), .val (.int (3 : Int32)), .val (.ref a2)]) rfl k) ?_
        show own_Go p.tables e below K (T4.setTop (mkF m 34 #[.val (.int q1), .val (.ref ar), .val (.int (4 : Int32)), .val (.int (3 : Int32)), .val (.ref a2)] []))
        refine own_by (fun t k => XS.goto X4.here hx rfl (pc0 := 34) (pc' := 9) rfl (hb hby own_d1_34) (by decide) (by decide) k) ?_
        show own_Go p.tables e below K (T4.setTop (mkF m 9 #[.val (.int q1), .val (.ref ar), .val (.int (4 : Int32)), .val (.int (3 : Int32)), .val (.ref a2)] []))
        refine own_by (fun t k => XS.iloadN X4.here hx rfl (hb hby own_d1_9) rfl k) ?_
        show own_Go p.tables e below K (T4.setTop (mkF m 10 #[.val (.int q1), .val (.ref ar), .val (.int (4 : Int32)), .val (.int (3 : Int32)), .val (.ref a2)] [(.int (3 : Int32))]))
        refine own_by (fun t k => XS.iloadN X4.here hx rfl (hb hby own_d1_10) rfl k) ?_
        show own_Go p.tables e below K (T4.setTop (mkF m 11 #[.val (.int q1), .val (.ref ar), .val (.int (4 : Int32)), .val (.int (3 : Int32)), .val (.ref a2)] [(.int (4 : Int32)), (.int (3 : Int32))]))
        have hc11 : (3 : Int32) < (4 : Int32) := by decide
        refine own_by (fun t k => XS.icmpNo X4.here hx rfl (hb hby own_d1_11) rfl (tlt hc11).2.1 k) ?_
        show own_Go p.tables e below K (T4.setTop (mkF m 14 #[.val (.int q1), .val (.ref ar), .val (.int (4 : Int32)), .val (.int (3 : Int32)), .val (.ref a2)] []))
        refine own_by (fun t k => XS.aloadN X4.here hx rfl (hb hby own_d1_14) rfl rfl k) ?_
        show own_Go p.tables e below K (T4.setTop (mkF m 15 #[.val (.int q1), .val (.ref ar), .val (.int (4 : Int32)), .val (.int (3 : Int32)), .val (.ref a2)] [(.ref ar)]))
        refine own_by (fun t k => XS.iloadN X4.here hx rfl (hb hby own_d1_15) rfl k) ?_
        show own_Go p.tables e below K (T4.setTop (mkF m 16 #[.val (.int q1), .val (.ref ar), .val (.int (4 : Int32)), .val (.int (3 : Int32)), .val (.ref a2)] [(.int (3 : Int32)), (.ref ar)]))
        refine own_by (fun t k => X4.aaload hx (j := (3 : Int32)) (v := .ref a3) (by rw [e4]; exact hAr.1) (State.isArrayOf_alike hZ.alike hAr.2.1) rfl hAr.2.2 hi3.1 hi3.2 (g := (mkF m 16 #[.val (.int q1), .val (.ref ar), .val (.int (4 : Int32)), .val (.int (3 : Int32)), .val (.ref a2)] [(.int (3 : Int32)), (.ref ar)])) rfl rfl (hb hby own_d1_16) t k) ?_
        show own_Go p.tables e below K (T4.setTop (mkF m 17 #[.val (.int q1), .val (.ref ar), .val (.int (4 : Int32)), .val (.int (3 : Int32)), .val (.ref a2)] [(.ref a3)]))
        refine own_by (fun t k => XS.astore X4.here hx rfl (hb hby own_d1_17) rfl rfl (l' := #[.val (.int q1), .val (.ref ar), .val (.int (4 : Int32)), .val (.int (3 : Int32)), .val (.ref a3)]) rfl k) ?_
        show own_Go p.tables e below K (T4.setTop (mkF m 19 #[.val (.int q1), .val (.ref ar), .val (.int (4 : Int32)), .val (.int (3 : Int32)), .val (.ref a3)] []))
        refine own_by (fun t k => XS.aload X4.here hx rfl (hb hby own_d1_19) rfl rfl k) ?_
        show own_Go p.tables e below K (T4.setTop (mkF m 21 #[.val (.int q1), .val (.ref ar), .val (.int (4 : Int32)), .val (.int (3 : Int32)), .val (.ref a3)] [(.ref a3)]))
        obtain ⟨T5, X5, e5, st5⟩ := getF X4 hx hZ hown (host := "") (Or.inl (hw _ (List.mem_of_getElem? (i := 8) rfl))) Via.refl e4 hF3 (g := (mkF m 21 #[.val (.int q1), .val (.ref ar), .val (.int (4 : Int32)), .val (.int (3 : Int32)), .val (.ref a3)] [(.ref a3)])) rfl rfl (hb hby own_d1_21)
        refine own_by st5 ?_
        show own_Go p.tables e below K (T5.setTop (mkF m 24 #[.val (.int q1), .val (.ref ar), .val (.int (4 : Int32)), .val (.int (3 : Int32)), .val (.ref a3)] [(.int (45 : Int32))]))
        refine own_by (fun t k => XS.iloadN X5.here hx rfl (hb hby own_d1_24) rfl k) ?_
        show own_Go p.tables e below K (T5.setTop (mkF m 25 #[.val (.int q1), .val (.ref ar), .val (.int (4 : Int32)), .val (.int (3 : Int32)), .val (.ref a3)] [(.int q1), (.int (45 : Int32))]))
        by_cases hc25 : (45 : Int32) = q1
        · refine own_by (fun t k => XS.icmpNo X5.here hx rfl (hb hby own_d1_25) rfl (teq hc25).2 k) ?_
          show own_Go p.tables e below K (T5.setTop (mkF m 28 #[.val (.int q1), .val (.ref ar), .val (.int (4 : Int32)), .val (.int (3 : Int32)), .val (.ref a3)] []))
          refine own_by (fun t k => XS.aload X5.here hx rfl (hb hby own_d1_28) rfl rfl k) ?_
          show own_Go p.tables e below K (T5.setTop (mkF m 30 #[.val (.int q1), .val (.ref ar), .val (.int (4 : Int32)), .val (.int (3 : Int32)), .val (.ref a3)] [(.ref a3)]))
          exact own_retA X5 hx hret rfl rfl rfl (hb hby own_d1_30) (hK (some (.ref a3)) X5 (fun h => by rw [hret] at h; cases h) (⟨by simp [own_pick, *], N0, e5⟩) (by decide) (by decide))
        · refine own_by (fun t k => XS.icmpYes X5.here hx rfl (pc0 := 25) (pc' := 31) rfl (hb hby own_d1_25) rfl (feq hc25).2 (by decide) (by decide) k) ?_
          show own_Go p.tables e below K (T5.setTop (mkF m 31 #[.val (.int q1), .val (.ref ar), .val (.int (4 : Int32)), .val (.int (3 : Int32)), .val (.ref a3)] []))
          refine own_by (fun t k => XS.iinc X5.here hx rfl (hb hby own_d1_31) rfl (l' := #[.val (.int q1), .val (.ref ar), .val (.int (4 : Int32)), .val (.int (4 : Int32)), .val (.ref a3)]) rfl k) ?_
          show own_Go p.tables e below K (T5.setTop (mkF m 34 #[.val (.int q1), .val (.ref ar), .val (.int (4 : Int32)), .val (.int (4 : Int32)), .val (.ref a3)] []))
          refine own_by (fun t k => XS.goto X5.here hx rfl (pc0 := 34) (pc' := 9) rfl (hb hby own_d1_34) (by decide) (by decide) k) ?_
          show own_Go p.tables e below K (T5.setTop (mkF m 9 #[.val (.int q1), .val (.ref ar), .val (.int (4 : Int32)), .val (.int (4 : Int32)), .val (.ref a3)] []))
          refine own_by (fun t k => XS.iloadN X5.here hx rfl (hb hby own_d1_9) rfl k) ?_
          show own_Go p.tables e below K (T5.setTop (mkF m 10 #[.val (.int q1), .val (.ref ar), .val (.int (4 : Int32)), .val (.int (4 : Int32)), .val (.ref a3)] [(.int (4 : Int32))]))
          refine own_by (fun t k => XS.iloadN X5.here hx rfl (hb hby own_d1_10) rfl k) ?_
          show own_Go p.tables e below K (T5.setTop (mkF m 11 #[.val (.int q1), .val (.ref ar), .val (.int (4 : Int32)), .val (.int (4 : Int32)), .val (.ref a3)] [(.int (4 : Int32)), (.int (4 : Int32))]))
          have hc11 : ¬ ((4 : Int32) < (4 : Int32)) := by decide
          refine own_by (fun t k => XS.icmpYes X5.here hx rfl (pc0 := 11) (pc' := 37) rfl (hb hby own_d1_11) rfl (flt hc11).2.1 (by decide) (by decide) k) ?_
          show own_Go p.tables e below K (T5.setTop (mkF m 37 #[.val (.int q1), .val (.ref ar), .val (.int (4 : Int32)), .val (.int (4 : Int32)), .val (.ref a3)] []))
          refine own_by (fun t k => XS.aconstNull X5.here hx rfl (hb hby own_d1_37) k) ?_
          show own_Go p.tables e below K (T5.setTop (mkF m 38 #[.val (.int q1), .val (.ref ar), .val (.int (4 : Int32)), .val (.int (4 : Int32)), .val (.ref a3)] [.null]))
          exact own_retA X5 hx hret rfl rfl rfl (hb hby own_d1_38) (hK (some .null) X5 (fun h => by rw [hret] at h; cases h) (⟨by simp [own_pick, *], N0, e5⟩) (by decide) (by decide))
theorem own_pd0 : parseMethodDescriptor "(C)Lcom/example/minilingua/minilingua/lang/badkode/Condition;" = some ⟨[.char], some (.object "com/example/minilingua/minilingua/lang/badkode/Condition")⟩ := by decide +kernel
theorem own_pn0 : plainName "com/example/minilingua/minilingua/lang/badkode/ConditionSpelledPinLaw" = true := by first | (simp [plainName, overriddenIn]; done) | decide +kernel
theorem own_ef0 (m : MethodId) (q1 : Int32) (q2 : Int32) : entryFrame m #[(.int q1), (.int q2)] maxLocals = mkF m 0 #[.val (.int q1), .val (.int q2), .unset, .unset] [] := by first | (simp [entryFrame, mkF, argsToLocals, Value.category, maxLocals]; done) | rfl
def own_Q0 (Z : State) (q1 : Int32) (q2 : Int32) (ar : Addr) (cl : Cell) (a0 : Addr) (a1 : Addr) (a2 : Addr) (a3 : Addr) (h0 : Heap) (n0 : Nat) (v : Option Value) (h : Heap) (L : List Loc) : Prop := v = some (.int (1 : Int32)) ∧ Fr n0 L
set_option maxRecDepth 65536 in
set_option maxHeartbeats 40000000 in
theorem own_rm0 (l : Launch) (Z : State) (aw : Array Value) (hw : ∀ d ∈ tables_1, d.before aw Z = true) (ws : List Jvm.Cond) (q1 : Int32) (q2 : Int32) (ar : Addr) (cl : Cell) (a0 : Addr) (a1 : Addr) (a2 : Addr) (a3 : Addr) (h0 : Heap) (n0 : Nat) (Z0 : n0 ≤ h0.size) (hE : own_En Z h0 ar cl a0 a1 a2 a3) (S0 : Sta Z h0 "com/example/minilingua/minilingua/lang/badkode/Condition" "ZERO" "Lcom/example/minilingua/minilingua/lang/badkode/Condition;" (.ref a0)) (S1 : Sta Z h0 "com/example/minilingua/minilingua/lang/badkode/Condition" "NOT_ZERO" "Lcom/example/minilingua/minilingua/lang/badkode/Condition;" (.ref a1)) (S2 : Sta Z h0 "com/example/minilingua/minilingua/lang/badkode/Condition" "POSITIVE" "Lcom/example/minilingua/minilingua/lang/badkode/Condition;" (.ref a2)) (S3 : Sta Z h0 "com/example/minilingua/minilingua/lang/badkode/Condition" "NEGATIVE" "Lcom/example/minilingua/minilingua/lang/badkode/Condition;" (.ref a3)) :
    MetFree l x (head1 (Jvm.Cond.code x code maxLocals ret :: ws) room_1) (fun a U => a = #[(.int q1), (.int q2)] ∧ Z.Warmed39 U.vm ∧ U.heap = h0) (fun _ _ _ _ _ => True) (fun _ U o U' => ∃ v L, o = .returned v ∧ own_Q0 Z q1 q2 ar cl a0 a1 a2 a3 h0 n0 v U'.heap L ∧ FrameEnd U o U' L 0 0) := by
  refine own_met (Q := own_Q0 Z q1 q2 ar cl a0 a1 a2 a3 h0 n0) (plainFor_of_name own_pn0) ?_
  intro p e s m below meth c s₁ K hx hby hml hown hnm hret hZ X0 e0 hK
  have hown : s.vm.findClass "com/example/minilingua/minilingua/lang/badkode/ConditionSpelledPinLaw" = some m.cls := hown
  have N0 := Fr.nil n0
  refine own_by (fun t k => castTop (own_ef0 m q1 q2) k) ?_
  have J24 : ∀ ch : Int32, own_Go p.tables e below K (s₁.setTop (mkF m 24 #[.val (.int q1), .val (.int q2), .val (.int ch), .unset] [])) := by
    intro ch
    show own_Go p.tables e below K (s₁.setTop (mkF m 24 #[.val (.int q1), .val (.int q2), .val (.int ch), .unset] []))
    refine own_by (fun t k => XS.iloadN X0.here hx rfl (hb hby at_24) rfl k) ?_
    show own_Go p.tables e below K (s₁.setTop (mkF m 25 #[.val (.int q1), .val (.int q2), .val (.int ch), .unset] [(.int ch)]))
    refine own_by (fun t k => XS.bipush X0.here hx rfl (hb hby at_25) k) ?_
    show own_Go p.tables e below K (s₁.setTop (mkF m 27 #[.val (.int q1), .val (.int q2), .val (.int ch), .unset] [(.int (61 : Int32)), (.int ch)]))
    by_cases hc27 : ch = (61 : Int32)
    · refine own_by (fun t k => XS.icmpNo X0.here hx rfl (hb hby at_27) rfl (teq hc27).2 k) ?_
      show own_Go p.tables e below K (s₁.setTop (mkF m 30 #[.val (.int q1), .val (.int q2), .val (.int ch), .unset] []))
      obtain ⟨T6, X6, e6, st6⟩ := getS2 X0 hx hZ hown (host := "") (Or.inl (hw _ (List.mem_of_getElem? (i := 16) rfl))) Via.refl e0 S0 (g := (mkF m 30 #[.val (.int q1), .val (.int q2), .val (.int ch), .unset] [])) rfl (hb hby at_30)
      refine own_by st6 ?_
      show own_Go p.tables e below K (T6.setTop (mkF m 33 #[.val (.int q1), .val (.int q2), .val (.int ch), .unset] [(.ref a0)]))
      refine own_by (fun t k => XS.astoreN X6.here hx rfl (hb hby at_33) rfl rfl (l' := #[.val (.int q1), .val (.int q2), .val (.int ch), .val (.ref a0)]) rfl k) ?_
      show own_Go p.tables e below K (T6.setTop (mkF m 34 #[.val (.int q1), .val (.int q2), .val (.int ch), .val (.ref a0)] []))
      refine own_by (fun t k => XS.goto X6.here hx rfl (pc0 := 34) (pc' := 78) rfl (hb hby at_34) (by decide) (by decide) k) ?_
      show own_Go p.tables e below K (T6.setTop (mkF m 78 #[.val (.int q1), .val (.int q2), .val (.int ch), .val (.ref a0)] []))
      refine own_by (fun t k => XS.iloadN X6.here hx rfl (hb hby at_78) rfl k) ?_
      show own_Go p.tables e below K (T6.setTop (mkF m 79 #[.val (.int q1), .val (.int q2), .val (.int ch), .val (.ref a0)] [(.int ch)]))
      obtain ⟨_, _, ⟨T7, L7, k7, n7⟩, -, X7, ⟨Lc7, hQ7, l7, y7, z7⟩, st7⟩ := Jvm.LawKit.callS X6 hx (y := (⟨"com/example/minilingua/minilingua/lang/badkode/Condition", "spelled", "(C)Lcom/example/minilingua/minilingua/lang/badkode/Condition;"⟩ : MethodName)) hown (mvT hZ (hw _ (List.mem_of_getElem? (i := 1) rfl))) (mvT hZ (hw _ (List.mem_of_getElem? (i := 2) rfl))) (mvT hZ (hw _ (List.mem_of_getElem? (i := 3) rfl))) (mvT hZ (hw _ (List.mem_of_getElem? (i := 4) rfl))) (by decide) (backOf (W := 0) (own_rmS l Z aw hw [] ch ar cl a0 a1 a2 a3 h0 n0 Z0 hE) hZ (hw _ (List.mem_of_getElem? (i := 4) rfl)) (hw _ (List.mem_of_getElem? (i := 3) rfl)) (by decide) (by decide)) (g := (mkF m 79 #[.val (.int q1), .val (.int q2), .val (.int ch), .val (.ref a0)] [(.int ch)])) rfl (by rw [hml]; rfl) (argsL := [(.int ch)]) (rest := []) (lenOf own_pd0 rfl) rfl (by show 2 * 0 + _ ≤ _; exact Nat.le_of_eq rfl) (hb hby at_79) (fun _ _ => ⟨rfl, e6, (by decide : 0 + 0 ≤ _), (by decide : 0 + 0 ≤ _)⟩)
      dsimp only [Pt.U, Pt.locs, Pt.cells, Pt.slots] at X7 l7 y7 z7 st7 hQ7
      subst l7 y7 z7
      obtain ⟨rfl, N7q, e7⟩ := hQ7
      have N7 := Fr.app N0 N7q
      have hvX7 : own_pick ch a0 a1 a2 a3 = (.ref a0) := by simp [own_pick, *, eq_comm]
      refine own_by st7 ?_
      rw [hvX7]
      show own_Go p.tables e below K (T7.setTop (mkF m 82 #[.val (.int q1), .val (.int q2), .val (.int ch), .val (.ref a0)] [(.ref a0)]))
      refine own_by (fun t k => XS.aloadN X7.here hx rfl (hb hby at_82) rfl rfl k) ?_
      show own_Go p.tables e below K (T7.setTop (mkF m 83 #[.val (.int q1), .val (.int q2), .val (.int ch), .val (.ref a0)] [(.ref a0), (.ref a0)]))
      refine own_by (fun t k => Jvm.RoadKit.acmp (g := (mkF m 83 #[.val (.int q1), .val (.int q2), .val (.int ch), .val (.ref a0)] [(.ref a0), (.ref a0)])) X7 hx rfl rfl rfl (pc0 := 83) (pc' := 86) (same := true) rfl (hb hby at_83) rfl (decide_eq_true rfl) (by decide) (by decide) k) ?_
      show own_Go p.tables e below K (T7.setTop (mkF m 86 #[.val (.int q1), .val (.int q2), .val (.int ch), .val (.ref a0)] []))
      refine own_by (fun t k => XS.iconst X7.here hx rfl (hb hby at_86) k) ?_
      show own_Go p.tables e below K (T7.setTop (mkF m 87 #[.val (.int q1), .val (.int q2), .val (.int ch), .val (.ref a0)] [(.int (1 : Int32))]))
      refine own_by (fun t k => XS.goto X7.here hx rfl (pc0 := 87) (pc' := 91) rfl (hb hby at_87) (by decide) (by decide) k) ?_
      show own_Go p.tables e below K (T7.setTop (mkF m 91 #[.val (.int q1), .val (.int q2), .val (.int ch), .val (.ref a0)] [(.int (1 : Int32))]))
      exact own_retZ X7 hx (t := .boolean) hret (by simp) (hb hby at_91) (hK (some (.int (1 : Int32))) X7 (fun h => by rw [hret] at h; cases h) (⟨rfl, N7⟩) (by decide) (by decide))
    · refine own_by (fun t k => XS.icmpYes X0.here hx rfl (pc0 := 27) (pc' := 37) rfl (hb hby at_27) rfl (feq hc27).2 (by decide) (by decide) k) ?_
      show own_Go p.tables e below K (s₁.setTop (mkF m 37 #[.val (.int q1), .val (.int q2), .val (.int ch), .unset] []))
      refine own_by (fun t k => XS.iloadN X0.here hx rfl (hb hby at_37) rfl k) ?_
      show own_Go p.tables e below K (s₁.setTop (mkF m 38 #[.val (.int q1), .val (.int q2), .val (.int ch), .unset] [(.int ch)]))
      refine own_by (fun t k => XS.bipush X0.here hx rfl (hb hby at_38) k) ?_
      show own_Go p.tables e below K (s₁.setTop (mkF m 40 #[.val (.int q1), .val (.int q2), .val (.int ch), .unset] [(.int (33 : Int32)), (.int ch)]))
      by_cases hc40 : ch = (33 : Int32)
      · refine own_by (fun t k => XS.icmpNo X0.here hx rfl (hb hby at_40) rfl (teq hc40).2 k) ?_
        show own_Go p.tables e below K (s₁.setTop (mkF m 43 #[.val (.int q1), .val (.int q2), .val (.int ch), .unset] []))
        obtain ⟨T8, X8, e8, st8⟩ := getS2 X0 hx hZ hown (host := "") (Or.inl (hw _ (List.mem_of_getElem? (i := 13) rfl))) Via.refl e0 S1 (g := (mkF m 43 #[.val (.int q1), .val (.int q2), .val (.int ch), .unset] [])) rfl (hb hby at_43)
        refine own_by st8 ?_
        show own_Go p.tables e below K (T8.setTop (mkF m 46 #[.val (.int q1), .val (.int q2), .val (.int ch), .unset] [(.ref a1)]))
        refine own_by (fun t k => XS.astoreN X8.here hx rfl (hb hby at_46) rfl rfl (l' := #[.val (.int q1), .val (.int q2), .val (.int ch), .val (.ref a1)]) rfl k) ?_
        show own_Go p.tables e below K (T8.setTop (mkF m 47 #[.val (.int q1), .val (.int q2), .val (.int ch), .val (.ref a1)] []))
        refine own_by (fun t k => XS.goto X8.here hx rfl (pc0 := 47) (pc' := 78) rfl (hb hby at_47) (by decide) (by decide) k) ?_
        show own_Go p.tables e below K (T8.setTop (mkF m 78 #[.val (.int q1), .val (.int q2), .val (.int ch), .val (.ref a1)] []))
        refine own_by (fun t k => XS.iloadN X8.here hx rfl (hb hby at_78) rfl k) ?_
        show own_Go p.tables e below K (T8.setTop (mkF m 79 #[.val (.int q1), .val (.int q2), .val (.int ch), .val (.ref a1)] [(.int ch)]))
        obtain ⟨_, _, ⟨T9, L9, k9, n9⟩, -, X9, ⟨Lc9, hQ9, l9, y9, z9⟩, st9⟩ := Jvm.LawKit.callS X8 hx (y := (⟨"com/example/minilingua/minilingua/lang/badkode/Condition", "spelled", "(C)Lcom/example/minilingua/minilingua/lang/badkode/Condition;"⟩ : MethodName)) hown (mvT hZ (hw _ (List.mem_of_getElem? (i := 1) rfl))) (mvT hZ (hw _ (List.mem_of_getElem? (i := 2) rfl))) (mvT hZ (hw _ (List.mem_of_getElem? (i := 3) rfl))) (mvT hZ (hw _ (List.mem_of_getElem? (i := 4) rfl))) (by decide) (backOf (W := 0) (own_rmS l Z aw hw [] ch ar cl a0 a1 a2 a3 h0 n0 Z0 hE) hZ (hw _ (List.mem_of_getElem? (i := 4) rfl)) (hw _ (List.mem_of_getElem? (i := 3) rfl)) (by decide) (by decide)) (g := (mkF m 79 #[.val (.int q1), .val (.int q2), .val (.int ch), .val (.ref a1)] [(.int ch)])) rfl (by rw [hml]; rfl) (argsL := [(.int ch)]) (rest := []) (lenOf own_pd0 rfl) rfl (by show 2 * 0 + _ ≤ _; exact Nat.le_of_eq rfl) (hb hby at_79) (fun _ _ => ⟨rfl, e8, (by decide : 0 + 0 ≤ _), (by decide : 0 + 0 ≤ _)⟩)
        dsimp only [Pt.U, Pt.locs, Pt.cells, Pt.slots] at X9 l9 y9 z9 st9 hQ9
        subst l9 y9 z9
        obtain ⟨rfl, N9q, e9⟩ := hQ9
        have N9 := Fr.app N0 N9q
        have hvX9 : own_pick ch a0 a1 a2 a3 = (.ref a1) := by simp [own_pick, *, eq_comm]
        refine own_by st9 ?_
        rw [hvX9]
        show own_Go p.tables e below K (T9.setTop (mkF m 82 #[.val (.int q1), .val (.int q2), .val (.int ch), .val (.ref a1)] [(.ref a1)]))
        refine own_by (fun t k => XS.aloadN X9.here hx rfl (hb hby at_82) rfl rfl k) ?_
        show own_Go p.tables e below K (T9.setTop (mkF m 83 #[.val (.int q1), .val (.int q2), .val (.int ch), .val (.ref a1)] [(.ref a1), (.ref a1)]))
        refine own_by (fun t k => Jvm.RoadKit.acmp (g := (mkF m 83 #[.val (.int q1), .val (.int q2), .val (.int ch), .val (.ref a1)] [(.ref a1), (.ref a1)])) X9 hx rfl rfl rfl (pc0 := 83) (pc' := 86) (same := true) rfl (hb hby at_83) rfl (decide_eq_true rfl) (by decide) (by decide) k) ?_
        show own_Go p.tables e below K (T9.setTop (mkF m 86 #[.val (.int q1), .val (.int q2), .val (.int ch), .val (.ref a1)] []))
        refine own_by (fun t k => XS.iconst X9.here hx rfl (hb hby at_86) k) ?_
        show own_Go p.tables e below K (T9.setTop (mkF m 87 #[.val (.int q1), .val (.int q2), .val (.int ch), .val (.ref a1)] [(.int (1 : Int32))]))
        refine own_by (fun t k => XS.goto X9.here hx rfl (pc0 := 87) (pc' := 91) rfl (hb hby at_87) (by decide) (by decide) k) ?_
        show own_Go p.tables e below K (T9.setTop (mkF m 91 #[.val (.int q1), .val (.int q2), .val (.int ch), .val (.ref a1)] [(.int (1 : Int32))]))
        exact own_retZ X9 hx (t := .boolean) hret (by simp) (hb hby at_91) (hK (some (.int (1 : Int32))) X9 (fun h => by rw [hret] at h; cases h) (⟨rfl, N9⟩) (by decide) (by decide))
      · refine own_by (fun t k => XS.icmpYes X0.here hx rfl (pc0 := 40) (pc' := 50) rfl (hb hby at_40) rfl (feq hc40).2 (by decide) (by decide) k) ?_
        show own_Go p.tables e below K (s₁.setTop (mkF m 50 #[.val (.int q1), .val (.int q2), .val (.int ch), .unset] []))
        refine own_by (fun t k => XS.iloadN X0.here hx rfl (hb hby at_50) rfl k) ?_
        show own_Go p.tables e below K (s₁.setTop (mkF m 51 #[.val (.int q1), .val (.int q2), .val (.int ch), .unset] [(.int ch)]))
        refine own_by (fun t k => XS.bipush X0.here hx rfl (hb hby at_51) k) ?_
        show own_Go p.tables e below K (s₁.setTop (mkF m 53 #[.val (.int q1), .val (.int q2), .val (.int ch), .unset] [(.int (43 : Int32)), (.int ch)]))
        by_cases hc53 : ch = (43 : Int32)
        · refine own_by (fun t k => XS.icmpNo X0.here hx rfl (hb hby at_53) rfl (teq hc53).2 k) ?_
          show own_Go p.tables e below K (s₁.setTop (mkF m 56 #[.val (.int q1), .val (.int q2), .val (.int ch), .unset] []))
          obtain ⟨T10, X10, e10, st10⟩ := getS2 X0 hx hZ hown (host := "") (Or.inl (hw _ (List.mem_of_getElem? (i := 15) rfl))) Via.refl e0 S2 (g := (mkF m 56 #[.val (.int q1), .val (.int q2), .val (.int ch), .unset] [])) rfl (hb hby at_56)
          refine own_by st10 ?_
          show own_Go p.tables e below K (T10.setTop (mkF m 59 #[.val (.int q1), .val (.int q2), .val (.int ch), .unset] [(.ref a2)]))
          refine own_by (fun t k => XS.astoreN X10.here hx rfl (hb hby at_59) rfl rfl (l' := #[.val (.int q1), .val (.int q2), .val (.int ch), .val (.ref a2)]) rfl k) ?_
          show own_Go p.tables e below K (T10.setTop (mkF m 60 #[.val (.int q1), .val (.int q2), .val (.int ch), .val (.ref a2)] []))
          refine own_by (fun t k => XS.goto X10.here hx rfl (pc0 := 60) (pc' := 78) rfl (hb hby at_60) (by decide) (by decide) k) ?_
          show own_Go p.tables e below K (T10.setTop (mkF m 78 #[.val (.int q1), .val (.int q2), .val (.int ch), .val (.ref a2)] []))
          refine own_by (fun t k => XS.iloadN X10.here hx rfl (hb hby at_78) rfl k) ?_
          show own_Go p.tables e below K (T10.setTop (mkF m 79 #[.val (.int q1), .val (.int q2), .val (.int ch), .val (.ref a2)] [(.int ch)]))
          obtain ⟨_, _, ⟨T11, L11, k11, n11⟩, -, X11, ⟨Lc11, hQ11, l11, y11, z11⟩, st11⟩ := Jvm.LawKit.callS X10 hx (y := (⟨"com/example/minilingua/minilingua/lang/badkode/Condition", "spelled", "(C)Lcom/example/minilingua/minilingua/lang/badkode/Condition;"⟩ : MethodName)) hown (mvT hZ (hw _ (List.mem_of_getElem? (i := 1) rfl))) (mvT hZ (hw _ (List.mem_of_getElem? (i := 2) rfl))) (mvT hZ (hw _ (List.mem_of_getElem? (i := 3) rfl))) (mvT hZ (hw _ (List.mem_of_getElem? (i := 4) rfl))) (by decide) (backOf (W := 0) (own_rmS l Z aw hw [] ch ar cl a0 a1 a2 a3 h0 n0 Z0 hE) hZ (hw _ (List.mem_of_getElem? (i := 4) rfl)) (hw _ (List.mem_of_getElem? (i := 3) rfl)) (by decide) (by decide)) (g := (mkF m 79 #[.val (.int q1), .val (.int q2), .val (.int ch), .val (.ref a2)] [(.int ch)])) rfl (by rw [hml]; rfl) (argsL := [(.int ch)]) (rest := []) (lenOf own_pd0 rfl) rfl (by show 2 * 0 + _ ≤ _; exact Nat.le_of_eq rfl) (hb hby at_79) (fun _ _ => ⟨rfl, e10, (by decide : 0 + 0 ≤ _), (by decide : 0 + 0 ≤ _)⟩)
          dsimp only [Pt.U, Pt.locs, Pt.cells, Pt.slots] at X11 l11 y11 z11 st11 hQ11
          subst l11 y11 z11
          obtain ⟨rfl, N11q, e11⟩ := hQ11
          have N11 := Fr.app N0 N11q
          have hvX11 : own_pick ch a0 a1 a2 a3 = (.ref a2) := by simp [own_pick, *, eq_comm]
          refine own_by st11 ?_
          rw [hvX11]
          show own_Go p.tables e below K (T11.setTop (mkF m 82 #[.val (.int q1), .val (.int q2), .val (.int ch), .val (.ref a2)] [(.ref a2)]))
          refine own_by (fun t k => XS.aloadN X11.here hx rfl (hb hby at_82) rfl rfl k) ?_
          show own_Go p.tables e below K (T11.setTop (mkF m 83 #[.val (.int q1), .val (.int q2), .val (.int ch), .val (.ref a2)] [(.ref a2), (.ref a2)]))
          refine own_by (fun t k => Jvm.RoadKit.acmp (g := (mkF m 83 #[.val (.int q1), .val (.int q2), .val (.int ch), .val (.ref a2)] [(.ref a2), (.ref a2)])) X11 hx rfl rfl rfl (pc0 := 83) (pc' := 86) (same := true) rfl (hb hby at_83) rfl (decide_eq_true rfl) (by decide) (by decide) k) ?_
          show own_Go p.tables e below K (T11.setTop (mkF m 86 #[.val (.int q1), .val (.int q2), .val (.int ch), .val (.ref a2)] []))
          refine own_by (fun t k => XS.iconst X11.here hx rfl (hb hby at_86) k) ?_
          show own_Go p.tables e below K (T11.setTop (mkF m 87 #[.val (.int q1), .val (.int q2), .val (.int ch), .val (.ref a2)] [(.int (1 : Int32))]))
          refine own_by (fun t k => XS.goto X11.here hx rfl (pc0 := 87) (pc' := 91) rfl (hb hby at_87) (by decide) (by decide) k) ?_
          show own_Go p.tables e below K (T11.setTop (mkF m 91 #[.val (.int q1), .val (.int q2), .val (.int ch), .val (.ref a2)] [(.int (1 : Int32))]))
          exact own_retZ X11 hx (t := .boolean) hret (by simp) (hb hby at_91) (hK (some (.int (1 : Int32))) X11 (fun h => by rw [hret] at h; cases h) (⟨rfl, N11⟩) (by decide) (by decide))
        · refine own_by (fun t k => XS.icmpYes X0.here hx rfl (pc0 := 53) (pc' := 63) rfl (hb hby at_53) rfl (feq hc53).2 (by decide) (by decide) k) ?_
          show own_Go p.tables e below K (s₁.setTop (mkF m 63 #[.val (.int q1), .val (.int q2), .val (.int ch), .unset] []))
          refine own_by (fun t k => XS.iloadN X0.here hx rfl (hb hby at_63) rfl k) ?_
          show own_Go p.tables e below K (s₁.setTop (mkF m 64 #[.val (.int q1), .val (.int q2), .val (.int ch), .unset] [(.int ch)]))
          refine own_by (fun t k => XS.bipush X0.here hx rfl (hb hby at_64) k) ?_
          show own_Go p.tables e below K (s₁.setTop (mkF m 66 #[.val (.int q1), .val (.int q2), .val (.int ch), .unset] [(.int (45 : Int32)), (.int ch)]))
          by_cases hc66 : ch = (45 : Int32)
          · refine own_by (fun t k => XS.icmpNo X0.here hx rfl (hb hby at_66) rfl (teq hc66).2 k) ?_
            show own_Go p.tables e below K (s₁.setTop (mkF m 69 #[.val (.int q1), .val (.int q2), .val (.int ch), .unset] []))
            obtain ⟨T12, X12, e12, st12⟩ := getS2 X0 hx hZ hown (host := "") (Or.inl (hw _ (List.mem_of_getElem? (i := 14) rfl))) Via.refl e0 S3 (g := (mkF m 69 #[.val (.int q1), .val (.int q2), .val (.int ch), .unset] [])) rfl (hb hby at_69)
            refine own_by st12 ?_
            show own_Go p.tables e below K (T12.setTop (mkF m 72 #[.val (.int q1), .val (.int q2), .val (.int ch), .unset] [(.ref a3)]))
            refine own_by (fun t k => XS.astoreN X12.here hx rfl (hb hby at_72) rfl rfl (l' := #[.val (.int q1), .val (.int q2), .val (.int ch), .val (.ref a3)]) rfl k) ?_
            show own_Go p.tables e below K (T12.setTop (mkF m 73 #[.val (.int q1), .val (.int q2), .val (.int ch), .val (.ref a3)] []))
            refine own_by (fun t k => XS.goto X12.here hx rfl (pc0 := 73) (pc' := 78) rfl (hb hby at_73) (by decide) (by decide) k) ?_
            show own_Go p.tables e below K (T12.setTop (mkF m 78 #[.val (.int q1), .val (.int q2), .val (.int ch), .val (.ref a3)] []))
            refine own_by (fun t k => XS.iloadN X12.here hx rfl (hb hby at_78) rfl k) ?_
            show own_Go p.tables e below K (T12.setTop (mkF m 79 #[.val (.int q1), .val (.int q2), .val (.int ch), .val (.ref a3)] [(.int ch)]))
            obtain ⟨_, _, ⟨T13, L13, k13, n13⟩, -, X13, ⟨Lc13, hQ13, l13, y13, z13⟩, st13⟩ := Jvm.LawKit.callS X12 hx (y := (⟨"com/example/minilingua/minilingua/lang/badkode/Condition", "spelled", "(C)Lcom/example/minilingua/minilingua/lang/badkode/Condition;"⟩ : MethodName)) hown (mvT hZ (hw _ (List.mem_of_getElem? (i := 1) rfl))) (mvT hZ (hw _ (List.mem_of_getElem? (i := 2) rfl))) (mvT hZ (hw _ (List.mem_of_getElem? (i := 3) rfl))) (mvT hZ (hw _ (List.mem_of_getElem? (i := 4) rfl))) (by decide) (backOf (W := 0) (own_rmS l Z aw hw [] ch ar cl a0 a1 a2 a3 h0 n0 Z0 hE) hZ (hw _ (List.mem_of_getElem? (i := 4) rfl)) (hw _ (List.mem_of_getElem? (i := 3) rfl)) (by decide) (by decide)) (g := (mkF m 79 #[.val (.int q1), .val (.int q2), .val (.int ch), .val (.ref a3)] [(.int ch)])) rfl (by rw [hml]; rfl) (argsL := [(.int ch)]) (rest := []) (lenOf own_pd0 rfl) rfl (by show 2 * 0 + _ ≤ _; exact Nat.le_of_eq rfl) (hb hby at_79) (fun _ _ => ⟨rfl, e12, (by decide : 0 + 0 ≤ _), (by decide : 0 + 0 ≤ _)⟩)
            dsimp only [Pt.U, Pt.locs, Pt.cells, Pt.slots] at X13 l13 y13 z13 st13 hQ13
            subst l13 y13 z13
            obtain ⟨rfl, N13q, e13⟩ := hQ13
            have N13 := Fr.app N0 N13q
            have hvX13 : own_pick ch a0 a1 a2 a3 = (.ref a3) := by simp [own_pick, *, eq_comm]
            refine own_by st13 ?_
            rw [hvX13]
            show own_Go p.tables e below K (T13.setTop (mkF m 82 #[.val (.int q1), .val (.int q2), .val (.int ch), .val (.ref a3)] [(.ref a3)]))
            refine own_by (fun t k => XS.aloadN X13.here hx rfl (hb hby at_82) rfl rfl k) ?_
            show own_Go p.tables e below K (T13.setTop (mkF m 83 #[.val (.int q1), .val (.int q2), .val (.int ch), .val (.ref a3)] [(.ref a3), (.ref a3)]))
            refine own_by (fun t k => Jvm.RoadKit.acmp (g := (mkF m 83 #[.val (.int q1), .val (.int q2), .val (.int ch), .val (.ref a3)] [(.ref a3), (.ref a3)])) X13 hx rfl rfl rfl (pc0 := 83) (pc' := 86) (same := true) rfl (hb hby at_83) rfl (decide_eq_true rfl) (by decide) (by decide) k) ?_
            show own_Go p.tables e below K (T13.setTop (mkF m 86 #[.val (.int q1), .val (.int q2), .val (.int ch), .val (.ref a3)] []))
            refine own_by (fun t k => XS.iconst X13.here hx rfl (hb hby at_86) k) ?_
            show own_Go p.tables e below K (T13.setTop (mkF m 87 #[.val (.int q1), .val (.int q2), .val (.int ch), .val (.ref a3)] [(.int (1 : Int32))]))
            refine own_by (fun t k => XS.goto X13.here hx rfl (pc0 := 87) (pc' := 91) rfl (hb hby at_87) (by decide) (by decide) k) ?_
            show own_Go p.tables e below K (T13.setTop (mkF m 91 #[.val (.int q1), .val (.int q2), .val (.int ch), .val (.ref a3)] [(.int (1 : Int32))]))
            exact own_retZ X13 hx (t := .boolean) hret (by simp) (hb hby at_91) (hK (some (.int (1 : Int32))) X13 (fun h => by rw [hret] at h; cases h) (⟨rfl, N13⟩) (by decide) (by decide))
          · refine own_by (fun t k => XS.icmpYes X0.here hx rfl (pc0 := 66) (pc' := 76) rfl (hb hby at_66) rfl (feq hc66).2 (by decide) (by decide) k) ?_
            show own_Go p.tables e below K (s₁.setTop (mkF m 76 #[.val (.int q1), .val (.int q2), .val (.int ch), .unset] []))
            refine own_by (fun t k => XS.aconstNull X0.here hx rfl (hb hby at_76) k) ?_
            show own_Go p.tables e below K (s₁.setTop (mkF m 77 #[.val (.int q1), .val (.int q2), .val (.int ch), .unset] [.null]))
            refine own_by (fun t k => XS.astoreN X0.here hx rfl (hb hby at_77) rfl rfl (l' := #[.val (.int q1), .val (.int q2), .val (.int ch), .val .null]) rfl k) ?_
            show own_Go p.tables e below K (s₁.setTop (mkF m 78 #[.val (.int q1), .val (.int q2), .val (.int ch), .val .null] []))
            refine own_by (fun t k => XS.iloadN X0.here hx rfl (hb hby at_78) rfl k) ?_
            show own_Go p.tables e below K (s₁.setTop (mkF m 79 #[.val (.int q1), .val (.int q2), .val (.int ch), .val .null] [(.int ch)]))
            obtain ⟨_, _, ⟨T14, L14, k14, n14⟩, -, X14, ⟨Lc14, hQ14, l14, y14, z14⟩, st14⟩ := Jvm.LawKit.callS X0 hx (y := (⟨"com/example/minilingua/minilingua/lang/badkode/Condition", "spelled", "(C)Lcom/example/minilingua/minilingua/lang/badkode/Condition;"⟩ : MethodName)) hown (mvT hZ (hw _ (List.mem_of_getElem? (i := 1) rfl))) (mvT hZ (hw _ (List.mem_of_getElem? (i := 2) rfl))) (mvT hZ (hw _ (List.mem_of_getElem? (i := 3) rfl))) (mvT hZ (hw _ (List.mem_of_getElem? (i := 4) rfl))) (by decide) (backOf (W := 0) (own_rmS l Z aw hw [] ch ar cl a0 a1 a2 a3 h0 n0 Z0 hE) hZ (hw _ (List.mem_of_getElem? (i := 4) rfl)) (hw _ (List.mem_of_getElem? (i := 3) rfl)) (by decide) (by decide)) (g := (mkF m 79 #[.val (.int q1), .val (.int q2), .val (.int ch), .val .null] [(.int ch)])) rfl (by rw [hml]; rfl) (argsL := [(.int ch)]) (rest := []) (lenOf own_pd0 rfl) rfl (by show 2 * 0 + _ ≤ _; exact Nat.le_of_eq rfl) (hb hby at_79) (fun _ _ => ⟨rfl, e0, (by decide : 0 + 0 ≤ _), (by decide : 0 + 0 ≤ _)⟩)
            dsimp only [Pt.U, Pt.locs, Pt.cells, Pt.slots] at X14 l14 y14 z14 st14 hQ14
            subst l14 y14 z14
            obtain ⟨rfl, N14q, e14⟩ := hQ14
            have N14 := Fr.app N0 N14q
            have hvX14 : own_pick ch a0 a1 a2 a3 = .null := by simp [own_pick, *, eq_comm]
            refine own_by st14 ?_
            rw [hvX14]
            show own_Go p.tables e below K (T14.setTop (mkF m 82 #[.val (.int q1), .val (.int q2), .val (.int ch), .val .null] [.null]))
            refine own_by (fun t k => XS.aloadN X14.here hx rfl (hb hby at_82) rfl rfl k) ?_
            show own_Go p.tables e below K (T14.setTop (mkF m 83 #[.val (.int q1), .val (.int q2), .val (.int ch), .val .null] [.null, .null]))
            refine own_by (fun t k => Jvm.RoadKit.acmp (g := (mkF m 83 #[.val (.int q1), .val (.int q2), .val (.int ch), .val .null] [.null, .null])) X14 hx rfl rfl rfl (pc0 := 83) (pc' := 86) (same := true) rfl (hb hby at_83) rfl (decide_eq_true rfl) (by decide) (by decide) k) ?_
            show own_Go p.tables e below K (T14.setTop (mkF m 86 #[.val (.int q1), .val (.int q2), .val (.int ch), .val .null] []))
            refine own_by (fun t k => XS.iconst X14.here hx rfl (hb hby at_86) k) ?_
            show own_Go p.tables e below K (T14.setTop (mkF m 87 #[.val (.int q1), .val (.int q2), .val (.int ch), .val .null] [(.int (1 : Int32))]))
            refine own_by (fun t k => XS.goto X14.here hx rfl (pc0 := 87) (pc' := 91) rfl (hb hby at_87) (by decide) (by decide) k) ?_
            show own_Go p.tables e below K (T14.setTop (mkF m 91 #[.val (.int q1), .val (.int q2), .val (.int ch), .val .null] [(.int (1 : Int32))]))
            exact own_retZ X14 hx (t := .boolean) hret (by simp) (hb hby at_91) (hK (some (.int (1 : Int32))) X14 (fun h => by rw [hret] at h; cases h) (⟨rfl, N14⟩) (by decide) (by decide))
  show own_Go p.tables e below K (s₁.setTop (mkF m 0 #[.val (.int q1), .val (.int q2), .unset, .unset] []))
  refine own_by (fun t k => XS.iloadN X0.here hx rfl (hb hby at_0) rfl k) ?_
  show own_Go p.tables e below K (s₁.setTop (mkF m 1 #[.val (.int q1), .val (.int q2), .unset, .unset] [(.int q1)]))
  refine own_by (fun t k => XS.iconst X0.here hx rfl (hb hby at_1) k) ?_
  show own_Go p.tables e below K (s₁.setTop (mkF m 2 #[.val (.int q1), .val (.int q2), .unset, .unset] [(.int (3 : Int32)), (.int q1)]))
  refine own_by (fun t k => XS.iand X0.here hx rfl (hb hby at_2) rfl k) ?_
  show own_Go p.tables e below K (s₁.setTop (mkF m 3 #[.val (.int q1), .val (.int q2), .unset, .unset] [(.int (q1 &&& (3 : Int32)))]))
  by_cases hc3 : (q1 &&& (3 : Int32)) = (0 : Int32)
  · refine own_by (fun t k => XS.ifNo X0.here hx rfl (hb hby at_3) rfl ((if0 _ _).trans (teq hc3).2) k) ?_
    show own_Go p.tables e below K (s₁.setTop (mkF m 6 #[.val (.int q1), .val (.int q2), .unset, .unset] []))
    refine own_by (fun t k => XS.iloadN X0.here hx rfl (hb hby at_6) rfl k) ?_
    show own_Go p.tables e below K (s₁.setTop (mkF m 7 #[.val (.int q1), .val (.int q2), .unset, .unset] [(.int q2)]))
    refine own_by (fun t k => X0.ldcInt hx hown (mvT hZ (hw _ (List.mem_of_getElem? (i := 0) rfl))) (g := (mkF m 7 #[.val (.int q1), .val (.int q2), .unset, .unset] [(.int q2)])) rfl (hb hby at_7) _ k) ?_
    show own_Go p.tables e below K (s₁.setTop (mkF m 9 #[.val (.int q1), .val (.int q2), .unset, .unset] [(.int (65535 : Int32)), (.int q2)]))
    refine own_by (fun t k => XS.iand X0.here hx rfl (hb hby at_9) rfl k) ?_
    show own_Go p.tables e below K (s₁.setTop (mkF m 10 #[.val (.int q1), .val (.int q2), .unset, .unset] [(.int (q2 &&& (65535 : Int32)))]))
    refine own_by (fun t k => XS.i2c X0.here hx rfl (hb hby at_10) rfl k) ?_
    show own_Go p.tables e below K (s₁.setTop (mkF m 11 #[.val (.int q1), .val (.int q2), .unset, .unset] [(.int ((q2 &&& (65535 : Int32)).toUInt32.toUInt16.toUInt32.toInt32))]))
    refine own_by (fun t k => XS.istoreN X0.here hx rfl (hb hby at_11) rfl (l' := #[.val (.int q1), .val (.int q2), .val (.int ((q2 &&& (65535 : Int32)).toUInt32.toUInt16.toUInt32.toInt32)), .unset]) rfl k) ?_
    show own_Go p.tables e below K (s₁.setTop (mkF m 12 #[.val (.int q1), .val (.int q2), .val (.int ((q2 &&& (65535 : Int32)).toUInt32.toUInt16.toUInt32.toInt32)), .unset] []))
    refine own_by (fun t k => XS.goto X0.here hx rfl (pc0 := 12) (pc' := 24) rfl (hb hby at_12) (by decide) (by decide) k) ?_
    exact J24 _
  · refine own_by (fun t k => XS.ifYes X0.here hx rfl (pc0 := 3) (pc' := 15) rfl (hb hby at_3) rfl ((if0 _ _).trans (feq hc3).2) (by decide) (by decide) k) ?_
    show own_Go p.tables e below K (s₁.setTop (mkF m 15 #[.val (.int q1), .val (.int q2), .unset, .unset] []))
    refine own_by (fun t k => XS.bipush X0.here hx rfl (hb hby at_15) k) ?_
    show own_Go p.tables e below K (s₁.setTop (mkF m 17 #[.val (.int q1), .val (.int q2), .unset, .unset] [(.int (32 : Int32))]))
    refine own_by (fun t k => XS.iloadN X0.here hx rfl (hb hby at_17) rfl k) ?_
    show own_Go p.tables e below K (s₁.setTop (mkF m 18 #[.val (.int q1), .val (.int q2), .unset, .unset] [(.int q2), (.int (32 : Int32))]))
    refine own_by (fun t k => XS.bipush X0.here hx rfl (hb hby at_18) k) ?_
    show own_Go p.tables e below K (s₁.setTop (mkF m 20 #[.val (.int q1), .val (.int q2), .unset, .unset] [(.int (31 : Int32)), (.int q2), (.int (32 : Int32))]))
    refine own_by (fun t k => XS.iand X0.here hx rfl (hb hby at_20) rfl k) ?_
    show own_Go p.tables e below K (s₁.setTop (mkF m 21 #[.val (.int q1), .val (.int q2), .unset, .unset] [(.int (q2 &&& (31 : Int32))), (.int (32 : Int32))]))
    refine own_by (fun t k => XS.iadd X0.here hx rfl (hb hby at_21) rfl k) ?_
    show own_Go p.tables e below K (s₁.setTop (mkF m 22 #[.val (.int q1), .val (.int q2), .unset, .unset] [(.int ((32 : Int32) + (q2 &&& (31 : Int32))))]))
    refine own_by (fun t k => XS.i2c X0.here hx rfl (hb hby at_22) rfl k) ?_
    show own_Go p.tables e below K (s₁.setTop (mkF m 23 #[.val (.int q1), .val (.int q2), .unset, .unset] [(.int (((32 : Int32) + (q2 &&& (31 : Int32))).toUInt32.toUInt16.toUInt32.toInt32))]))
    refine own_by (fun t k => XS.istoreN X0.here hx rfl (hb hby at_23) rfl (l' := #[.val (.int q1), .val (.int q2), .val (.int (((32 : Int32) + (q2 &&& (31 : Int32))).toUInt32.toUInt16.toUInt32.toInt32)), .unset]) rfl k) ?_
    exact J24 _
set_option maxRecDepth 65536 in
set_option maxHeartbeats 40000000 in
theorem own_comes {Post : Tables → Env → Array Value → State → Outcome → State → Prop} (hpost : ∀ tb e args s v u, (limb_1_1.after args s (.returned v) u = true ∧ limb_1_2.after args s (.returned v) u = true ∧ True) → FrameEnd s (.returned v) u (Jvm.fieldLocs frame_1_writes args s ++ Jvm.arrayLocs frame_1_arrays args s ++ Jvm.staticLocs frame_1_statics s) 0 0 → Post tb e args s (.returned v) u) :
    ArmFor flags0 classFile x code maxLocals ret World_1 tables_1 room_1 Calls_1 rest_1 Pre_1 Post := by
  intro l hfl _ _ p e ha hc hk s m args below hf hA hF happ hP
  obtain ⟨hcalls, hrest, hpre⟩ := hP
  obtain ⟨-, -, -, hnamed, -, -, -, hat⟩ := (Spec.applies_iff hf).mp happ
  obtain ⟨hg, hn⟩ := and_e (Cond.before_iff.mp (show (Jvm.Cond.and given_1 narrow_1).before args s = true from hpre))
  obtain ⟨hcount, g0⟩ := and_e hg
  obtain ⟨a0, g1⟩ := and_e g0
  obtain ⟨w0, w1, rfl⟩ : ∃ w0 w1 : Value, args = #[w0, w1] := by
    have hs : args.size = 2 := by simpa [Cond.value, given_1] using hcount
    obtain ⟨L⟩ := args
    match L, hs with
    | [w0, w1], _ => exact ⟨w0, w1, rfl⟩
  have hw := fun d (hd : d ∈ tables_1) => atoms_spec (ws := Jvm.Cond.code x code maxLocals ret :: tables_1) hat d (List.mem_cons_of_mem _ hd)
  have hfit : Fit s := fun {y c} hc i hi => by
    obtain ⟨ha, rfl⟩ := Array.getElem?_eq_some_iff.mp hc
    have q := List.all_eq_true.mp ((Array.all_eq_true_iff_forall_mem.mp hF) _ (Array.getElem_mem ha)) i (List.mem_range.mpr hi)
    simpa [Array.getElem?_eq_getElem hi] using q
  obtain ⟨i0, ei0⟩ := is_v a0
  obtain rfl : w0 = (.int i0) := Option.some.inj ei0
  obtain ⟨i1, ei1⟩ := is_v g1
  obtain rfl : w1 = (.int i1) := Option.some.inj ei1
  obtain ⟨n_a, c0⟩ := and_e hn
  obtain ⟨n_l, c1⟩ := and_e c0
  obtain ⟨n0_x, c2⟩ := and_e c1
  obtain ⟨n0_e, c3⟩ := and_e c2
  obtain ⟨n0_f, c4⟩ := and_e c3
  obtain ⟨n1_x, c5⟩ := and_e c4
  obtain ⟨n1_e, c6⟩ := and_e c5
  obtain ⟨n1_f, c7⟩ := and_e c6
  obtain ⟨n2_x, c8⟩ := and_e c7
  obtain ⟨n2_e, c9⟩ := and_e c8
  obtain ⟨n2_f, c10⟩ := and_e c9
  obtain ⟨n3_x, c11⟩ := and_e c10
  obtain ⟨n3_e, c12⟩ := and_e c11
  have n3_f := c12
  obtain ⟨ar, ev_ar⟩ := arr_v n_a
  obtain ⟨cl, hAr⟩ := Arr.start ev_ar n_a
  have hlen := own_len n_l ev_ar hAr
  have S_ALL := Sta.start ev_ar (Or.inr ⟨(hw _ (List.mem_of_getElem? (i := 3) rfl)), (hw _ (List.mem_of_getElem? (i := 6) rfl))⟩)
  obtain ⟨a0, ev0⟩ := exa_v n0_x
  have S_0 := Sta.start ev0 (Or.inr ⟨(hw _ (List.mem_of_getElem? (i := 3) rfl)), (hw _ (List.mem_of_getElem? (i := 7) rfl))⟩)
  have hi0 := elem_in (own_eqR n0_e ev0) ev_ar (Term.int_eval _) hAr.1
  have hF0 := Fld.start ((fld_at ev0).symm.trans (own_eqI n0_f))
  obtain ⟨a1, ev1⟩ := exa_v n1_x
  have S_1 := Sta.start ev1 (Or.inr ⟨(hw _ (List.mem_of_getElem? (i := 3) rfl)), (hw _ (List.mem_of_getElem? (i := 10) rfl))⟩)
  have hi1 := elem_in (own_eqR n1_e ev1) ev_ar (Term.int_eval _) hAr.1
  have hF1 := Fld.start ((fld_at ev1).symm.trans (own_eqI n1_f))
  obtain ⟨a2, ev2⟩ := exa_v n2_x
  have S_2 := Sta.start ev2 (Or.inr ⟨(hw _ (List.mem_of_getElem? (i := 3) rfl)), (hw _ (List.mem_of_getElem? (i := 11) rfl))⟩)
  have hi2 := elem_in (own_eqR n2_e ev2) ev_ar (Term.int_eval _) hAr.1
  have hF2 := Fld.start ((fld_at ev2).symm.trans (own_eqI n2_f))
  obtain ⟨a3, ev3⟩ := exa_v n3_x
  have S_3 := Sta.start ev3 (Or.inr ⟨(hw _ (List.mem_of_getElem? (i := 3) rfl)), (hw _ (List.mem_of_getElem? (i := 12) rfl))⟩)
  have hi3 := elem_in (own_eqR n3_e ev3) ev_ar (Term.int_eval _) hAr.1
  have hF3 := Fld.start ((fld_at ev3).symm.trans (own_eqI n3_f))
  have hE : own_En s s.heap ar cl a0 a1 a2 a3 := ⟨S_ALL, hAr, hlen, hi0, hF0, hi1, hF1, hi2, hF2, hi3, hF3⟩
  obtain ⟨n, o, h1, h2, h3, _, L, rfl, ⟨rfl, N⟩, hq⟩ := own_rm0 l s _ hw tables_1 i0 i1 ar cl a0 a1 a2 a3 s.heap s.heap.size (Nat.le_refl _) hE S_0 S_1 S_2 S_3 p e ha hc hk s m _ below hf ((Spec.applies_iff_loose hf).mp happ).1 ⟨rfl, State.Warmed39.refl s, rfl⟩ trivial
  refine ⟨n, _, h1, h2, h3, hpost _ _ _ _ _ _ ⟨Cond.after_iff.mpr rfl, Cond.after_iff.mpr (eq_i res_at (Term.int_eval (1)) rfl), trivial⟩ ⟨hq.1, hq.2.1, (hq.2.2.sift fun y hy => Or.inr (N y hy)).mono (by decide) (by decide)⟩⟩
theorem main_1_1 : Claimed_1_1 := own_comes fun _ _ _ _ _ _ h hF => ⟨h.1, hF⟩
theorem main_1_2 : Claimed_1_2 := own_comes fun _ _ _ _ _ _ h hF => ⟨h.2.1, hF⟩
end Jvm.Pilot.@@N@@
namespace Jvm.Pilot.@@N@@
open Jvm Jvm.ClassFile Sem Op Lib Jvm.Free Jvm.Stand Jvm.Pilot.@@N@@.Jvm.D
/-! MADE BY PROGRAM (witnessworld.py) out of the Statement's table words and the real class files: 13 classes; the members and pool entries that the words name. The judged class is class 1, her method 1. -/
namespace start1
open Jvm.ClassFile
def u (s : String) : CpInfo := .utf8 (stringToUtf16 s)
/-- a pool by its gaps: so many unusable entries, then the entry; so many at the end -/
def gap : Nat → List CpInfo → List CpInfo
  | 0, r => r
  | n + 1, r => .unusable :: gap n r
def poolList (es : List (Nat × CpInfo)) (last : Nat) : List CpInfo := es.foldr (fun e r => gap e.1 (e.2 :: r)) (gap last [])
def pool (es : List (Nat × CpInfo)) (last : Nat) : Array CpInfo := ⟨poolList es last⟩
def fileOf (pool : Array CpInfo) (this : Nat) (attrs : Array Attribute := #[]) (ms : Array MethodInfo := #[]) (fl : Nat := 33) (sup : Nat := 0) (ifs : Array Nat := #[]) (fds : Array FieldInfo := #[]) : ClassFile where
  minorVersion := 0
  majorVersion := 65
  constantPool := pool
  accessFlags := fl
  thisClass := this
  superClass := sup
  interfaces := ifs
  fields := fds
  methods := ms
  attributes := attrs
def plain (name : String) (sup : Option ClassId) : Class where
  name := name
  kind := .ordinary
  loader := none
  accessFlags := 33
  super := sup
  interfaces := #[]
  cf := none
  fields := #[]
  methods := #[]
  instanceTypes := #[]
  staticTypes := #[]
  resolved := #[]
  callSites := []
  init := .initialized
  statics := none
  mirror := none

def pool0 : Array CpInfo := pool [(5, u "<init>"), (0, u "()V"), (1, .class_ 10), (1, u "java/lang/Object")] 113

def k0m0 : Method := { name := "<init>", desc := "()V", sig := { parameters := [], returnType := none }, accessFlags := 1, code := none }
/-- java/lang/Object -/
def k0 : Class := { plain "java/lang/Object" none with
  accessFlags := 33
  interfaces := #[]
  cf := some (fileOf pool0 8 #[] #[{ accessFlags := 1, nameIndex := 5, descriptorIndex := 6, attributes := #[] }] 33 0 #[] #[])
  fields := #[]
  methods := #[k0m0]
  instanceTypes := #[]
  staticTypes := #[]
  resolved := Array.replicate 124 none
  statics := none }

def pool1 : Array CpInfo := pool [(2, .class_ 4), (1, u "java/lang/Object"), (0, u "<init>"), (0, u "()V"), (0, .integer 65535), (0, .fieldref 9 10), (0, .class_ 11), (0, .nameAndType 12 13), (0, u "com/example/minilingua/minilingua/lang/badkode/Condition"), (0, u "ZERO"), (0, u "Lcom/example/minilingua/minilingua/lang/badkode/Condition;"), (0, .fieldref 9 15), (0, .nameAndType 16 13), (0, u "NOT_ZERO"), (0, .fieldref 9 18), (0, .nameAndType 19 13), (0, u "POSITIVE"), (0, .fieldref 9 21), (0, .nameAndType 22 13), (0, u "NEGATIVE"), (0, .methodref 9 24), (0, .nameAndType 25 26), (0, u "spelled"), (0, u "(C)Lcom/example/minilingua/minilingua/lang/badkode/Condition;"), (0, .class_ 28), (0, u "com/example/minilingua/minilingua/lang/badkode/ConditionSpelledPinLaw"), (2, u "law"), (0, u "(II)Z")] 3

def k1m0 : Method := { name := "<init>", desc := "()V", sig := { parameters := [], returnType := none }, accessFlags := 1, code := none }
def k1c1 : Code := { maxStack := 3, maxLocals := 4, code := code, exceptionTable := #[], attributes := #[] }
def k1m1 : Method := { name := "law", desc := "(II)Z", sig := { parameters := [.int, .int], returnType := some .boolean }, accessFlags := 9, code := some k1c1 }
/-- com/example/minilingua/minilingua/lang/badkode/ConditionSpelledPinLaw -/
def k1 : Class := { plain "com/example/minilingua/minilingua/lang/badkode/ConditionSpelledPinLaw" (some 0) with
  accessFlags := 49
  interfaces := #[]
  cf := some (fileOf pool1 27 #[] #[{ accessFlags := 1, nameIndex := 5, descriptorIndex := 6, attributes := #[] }, { accessFlags := 9, nameIndex := 31, descriptorIndex := 32, attributes := #[] }] 49 2 #[] #[])
  fields := #[]
  methods := #[k1m0, k1m1]
  instanceTypes := #[]
  staticTypes := #[]
  resolved := Array.replicate 36 none
  statics := none }

def pool2 : Array CpInfo := pool [(1, .class_ 2), (0, u "java/lang/constant/Constable"), (0, .class_ 4), (0, u "java/lang/Object")] 6

/-- java/lang/constant/Constable -/
def k2 : Class := { plain "java/lang/constant/Constable" (some 0) with
  accessFlags := 1537
  interfaces := #[]
  cf := some (fileOf pool2 1 #[] #[] 1537 3 #[] #[])
  fields := #[]
  methods := #[]
  instanceTypes := #[]
  staticTypes := #[]
  resolved := Array.replicate 11 none
  statics := none }

def pool3 : Array CpInfo := pool [(1, .class_ 2), (0, u "java/lang/Comparable"), (0, .class_ 4), (0, u "java/lang/Object")] 7

/-- java/lang/Comparable -/
def k3 : Class := { plain "java/lang/Comparable" (some 0) with
  accessFlags := 1537
  interfaces := #[]
  cf := some (fileOf pool3 1 #[] #[] 1537 3 #[] #[])
  fields := #[]
  methods := #[]
  instanceTypes := #[]
  staticTypes := #[]
  resolved := Array.replicate 12 none
  statics := none }

def pool4 : Array CpInfo := pool [(1, .class_ 2), (0, u "java/io/Serializable"), (0, .class_ 4), (0, u "java/lang/Object")] 2

/-- java/io/Serializable -/
def k4 : Class := { plain "java/io/Serializable" (some 0) with
  accessFlags := 1537
  interfaces := #[]
  cf := some (fileOf pool4 1 #[] #[] 1537 3 #[] #[])
  fields := #[]
  methods := #[]
  instanceTypes := #[]
  staticTypes := #[]
  resolved := Array.replicate 7 none
  statics := none }

def pool5 : Array CpInfo := pool [(2, .class_ 4), (1, u "java/lang/Enum"), (0, u "name"), (0, u "Ljava/lang/String;"), (2, u "ordinal"), (0, u "I"), (1, .class_ 14), (1, u "java/lang/Object"), (4, u "hash"), (86, .class_ 108), (1, u "java/lang/Enum$EnumDesc"), (2, .class_ 112), (0, u "java/lang/constant/Constable"), (0, .class_ 114), (0, u "java/lang/Comparable"), (0, .class_ 116), (0, u "java/io/Serializable")] 87

/-- java/lang/Enum -/
def k5 : Class := { plain "java/lang/Enum" (some 0) with
  accessFlags := 1057
  interfaces := #[2, 3, 4]
  cf := some (fileOf pool5 2 #[.nestMembers #[106]] #[] 1057 12 #[111, 113, 115] #[{ accessFlags := 18, nameIndex := 5, descriptorIndex := 6, attributes := #[] }, { accessFlags := 18, nameIndex := 9, descriptorIndex := 10, attributes := #[] }, { accessFlags := 2, nameIndex := 19, descriptorIndex := 10, attributes := #[] }])
  fields := #[{ name := "name", type := (.object "java/lang/String"), accessFlags := 18, slot := 0, constantValue := 0 }, { name := "ordinal", type := .int, accessFlags := 18, slot := 1, constantValue := 0 }, { name := "hash", type := .int, accessFlags := 2, slot := 2, constantValue := 0 }]
  methods := #[]
  instanceTypes := #[(.object "java/lang/String"), .int, .int]
  staticTypes := #[]
  resolved := Array.replicate 204 none
  statics := none }

def pool6 : Array CpInfo := pool [(1, .class_ 2), (0, u "com/example/minilingua/minilingua/lang/badkode/Condition"), (2, u "ZERO"), (0, u "Lcom/example/minilingua/minilingua/lang/badkode/Condition;"), (2, u "NOT_ZERO"), (2, u "POSITIVE"), (2, u "NEGATIVE"), (2, u "$VALUES"), (0, u "[Lcom/example/minilingua/minilingua/lang/badkode/Condition;"), (6, .class_ 28), (1, u "java/lang/Enum"), (6, .fieldref 1 36), (0, .nameAndType 37 38), (0, u "symbol"), (0, u "C"), (0, .fieldref 1 40), (0, .nameAndType 41 19), (0, u "ALL"), (29, u "spelled"), (0, u "(C)Lcom/example/minilingua/minilingua/lang/badkode/Condition;")] 8

def k6c0 : Code := { maxStack := 2, maxLocals := 5, code := prog_94_method_4_code, exceptionTable := #[], attributes := #[] }
def k6m0 : Method := { name := "spelled", desc := "(C)Lcom/example/minilingua/minilingua/lang/badkode/Condition;", sig := { parameters := [.char], returnType := some (.object "com/example/minilingua/minilingua/lang/badkode/Condition") }, accessFlags := 8, code := some k6c0 }
/-- com/example/minilingua/minilingua/lang/badkode/Condition -/
def k6 : Class := { plain "com/example/minilingua/minilingua/lang/badkode/Condition" (some 5) with
  accessFlags := 16432
  interfaces := #[]
  cf := some (fileOf pool6 1 #[] #[{ accessFlags := 8, nameIndex := 71, descriptorIndex := 72, attributes := #[] }] 16432 26 #[] #[{ accessFlags := 16409, nameIndex := 5, descriptorIndex := 6, attributes := #[] }, { accessFlags := 16409, nameIndex := 9, descriptorIndex := 6, attributes := #[] }, { accessFlags := 16409, nameIndex := 12, descriptorIndex := 6, attributes := #[] }, { accessFlags := 16409, nameIndex := 15, descriptorIndex := 6, attributes := #[] }, { accessFlags := 26, nameIndex := 41, descriptorIndex := 19, attributes := #[] }, { accessFlags := 18, nameIndex := 37, descriptorIndex := 38, attributes := #[] }, { accessFlags := 4122, nameIndex := 18, descriptorIndex := 19, attributes := #[] }])
  fields := #[{ name := "ZERO", type := (.object "com/example/minilingua/minilingua/lang/badkode/Condition"), accessFlags := 16409, slot := 0, constantValue := 0 }, { name := "NOT_ZERO", type := (.object "com/example/minilingua/minilingua/lang/badkode/Condition"), accessFlags := 16409, slot := 1, constantValue := 0 }, { name := "POSITIVE", type := (.object "com/example/minilingua/minilingua/lang/badkode/Condition"), accessFlags := 16409, slot := 2, constantValue := 0 }, { name := "NEGATIVE", type := (.object "com/example/minilingua/minilingua/lang/badkode/Condition"), accessFlags := 16409, slot := 3, constantValue := 0 }, { name := "ALL", type := (.array (.object "com/example/minilingua/minilingua/lang/badkode/Condition")), accessFlags := 26, slot := 4, constantValue := 0 }, { name := "symbol", type := .char, accessFlags := 18, slot := 3, constantValue := 0 }, { name := "$VALUES", type := (.array (.object "com/example/minilingua/minilingua/lang/badkode/Condition")), accessFlags := 4122, slot := 5, constantValue := 0 }]
  methods := #[k6m0]
  instanceTypes := #[(.object "java/lang/String"), .int, .int, .char]
  staticTypes := #[(.object "com/example/minilingua/minilingua/lang/badkode/Condition"), (.object "com/example/minilingua/minilingua/lang/badkode/Condition"), (.object "com/example/minilingua/minilingua/lang/badkode/Condition"), (.object "com/example/minilingua/minilingua/lang/badkode/Condition"), (.array (.object "com/example/minilingua/minilingua/lang/badkode/Condition")), (.array (.object "com/example/minilingua/minilingua/lang/badkode/Condition"))]
  resolved := Array.replicate 81 none
  statics := some 0 }

def pool7 : Array CpInfo := pool [(1, u "java/lang/Cloneable"), (0, .class_ 1), (0, u "java/lang/Object"), (0, .class_ 3)] 3

/-- java/lang/Cloneable -/
def k7 : Class := { plain "java/lang/Cloneable" (some 0) with
  accessFlags := 1537
  interfaces := #[]
  cf := some (fileOf pool7 2 #[] #[] 1537 4 #[] #[])
  fields := #[]
  methods := #[]
  instanceTypes := #[]
  staticTypes := #[]
  resolved := Array.replicate 8 none
  statics := none }

/-- the primitive byte -/
def k8 : Class := { plain "byte" none with kind := .primitive 'B', accessFlags := 0x411 }
/-- [B -/
def k9 : Class := { plain "[B" (some 0) with kind := .array 8 .byte, interfaces := #[7, 4], accessFlags := 1041 }

/-- the primitive int -/
def k10 : Class := { plain "int" none with kind := .primitive 'I', accessFlags := 0x411 }
/-- [I -/
def k11 : Class := { plain "[I" (some 0) with kind := .array 10 .int, interfaces := #[7, 4], accessFlags := 1041 }

/-- [Lcom/example/minilingua/minilingua/lang/badkode/Condition; -/
def k12 : Class := { plain "[Lcom/example/minilingua/minilingua/lang/badkode/Condition;" (some 0) with kind := .array 6 (.object "com/example/minilingua/minilingua/lang/badkode/Condition"), interfaces := #[7, 4], accessFlags := 1041 }

def heap : Heap := #[{ cls := 6, slots := #[.ref 2, .ref 3, .ref 4, .ref 5, .ref 1, .null], vm := .statics 6 },
  { cls := 12, slots := #[.ref 2, .ref 3, .ref 4, .ref 5], vm := .none },
  { cls := 6, slots := #[.null, .int 0, .int 0, .int 61], vm := .none },
  { cls := 6, slots := #[.null, .int 0, .int 0, .int 33], vm := .none },
  { cls := 6, slots := #[.null, .int 0, .int 0, .int 43], vm := .none },
  { cls := 6, slots := #[.null, .int 0, .int 0, .int 45], vm := .none }]
def classes : Array Class := #[k0, k1, k2, k3, k4, k5, k6, k7, k8, k9, k10, k11, k12]
def interned : List (Array UInt16 × Addr) := []
def slotsUsed : Nat := 26
def theMethod : MethodId := ⟨1, 1⟩
def args0 : Array Value := #[.int 1, .int 5]
def aboutOver (below : List Frame) : State where
  vm := { classes := classes, interned := interned.toArray }
  heap := heap
  slotsUsed := slotsUsed
  threads := #[{ frames := .invoking theMethod args0 :: below }]
def below0 : List Frame := [.native { method := ⟨0, 0⟩, args := #[] }]
def about1 : State := aboutOver below0
def p0 : Program := .bare "" "" ""
def e0 : Env := launch0.env 0 0 0
theorem w_frames : about1.frames = Frame.invoking theMethod args0 :: below0 := rfl
set_option maxRecDepth 65536 in
theorem w_args : argsFit about1.vm theMethod args0 = true := by decide +kernel
set_option maxRecDepth 65536 in
theorem w_heap : heapFits about1 = true := by decide +kernel
set_option maxRecDepth 65536 in
theorem w_runnable : about1.curStatus? = some .runnable := by decide +kernel
set_option maxRecDepth 65536 in
theorem w_alone : about1.alone = true := by decide +kernel
set_option maxRecDepth 65536 in
theorem w_named : about1.methodNamed? x = some theMethod := by decide +kernel
set_option maxRecDepth 65536 in
theorem w_hears : about1.hears theMethod below0 = true := by decide +kernel
set_option maxRecDepth 65536 in
theorem w_ripe : about1.ripe theMethod args0 below0 = true := by decide +kernel
theorem w_running : about1.status = .running := rfl
set_option maxRecDepth 65536 in
theorem w_room : about1.hasRoom e0.platform room_1 = true :=
  launch0.hasRoom_least _ room_1 (by decide +kernel) (by decide +kernel) (by decide +kernel) (by decide +kernel) (by decide +kernel) (by decide +kernel)
theorem allAtoms_all (ts : List Jvm.Cond) (a : Array Jvm.Value) (st : Jvm.State) : (allAtoms ts).before a st = ts.all (fun c => c.before a st) := by
  induction ts with
  | nil => rfl
  | cons c t ih =>
    show (Jvm.Cond.and c (allAtoms t)).before a st = _
    rw [Jvm.Cond.before_and, ih, List.all_cons]
def words1 : List Jvm.Cond := Jvm.Cond.code x code maxLocals ret :: tables_1
/-- a 'code' word, met by the world's own term for the bytes: nothing is compared byte by byte -/
theorem code_word {y : MethodName} {bytes : ByteArray} {mx : Nat} {rt : Option FieldType} {a : Array Value} {s : State} {m : MethodId} {meth : Method} {c : Code} (h1 : s.methodNamed? y = some m) (h2 : s.vm.method? m = some meth) (h3 : meth.code = some c) (h4 : c.code = bytes)
    (h5 : (c.maxLocals == mx && c.exceptionTable.isEmpty && decide (c.maxStack ≤ mostOperands) && decide (meth.sig.returnType = rt) && !meth.locks && decide (parseMethodDescriptor y.desc = some meth.sig)) = true) : (Jvm.Cond.code y bytes mx rt).before a s = true := by
  simp only [Bool.and_eq_true, beq_iff_eq, Bool.not_eq_true', decide_eq_true_eq] at h5
  obtain ⟨⟨⟨⟨⟨g1, g2⟩, g3⟩, g4⟩, g5⟩, g6⟩ := h5
  simp [Cond.before, Cond.holds, Cond.value, h1, h2, h3, h4, g1, g2, g3, g4, g5, g6]
def isCode : Jvm.Cond → Bool
  | .code _ _ _ _ => true
  | _ => false
theorem all_split {L : List Jvm.Cond} {P : Jvm.Cond → Bool} (h1 : L.all (fun c => isCode c || P c) = true) (h2 : ∀ c ∈ L.filter isCode, P c = true) : L.all P = true := by
  refine List.all_eq_true.mpr fun c hc => ?_
  have h := List.all_eq_true.mp h1 c hc
  rcases Bool.eq_false_or_eq_true (isCode c) with hi | hi
  · exact h2 c (List.mem_filter.mpr ⟨hc, hi⟩)
  · simpa [hi] using h
set_option maxRecDepth 65536 in
theorem w_c0 : (Jvm.Cond.code x code maxLocals ret).before args0 about1 = true := code_word (m := ⟨1, 1⟩) (meth := k1m1) (c := k1c1) (by decide +kernel) rfl rfl rfl (by decide +kernel)
set_option maxRecDepth 65536 in
theorem w_c1 : (Jvm.Cond.code ({ cls := "com/example/minilingua/minilingua/lang/badkode/Condition", name := "spelled", desc := "(C)Lcom/example/minilingua/minilingua/lang/badkode/Condition;" } : Jvm.MethodName) prog_94_method_4_code (5 : Nat) (Option.some (Jvm.ClassFile.FieldType.object "com/example/minilingua/minilingua/lang/badkode/Condition"))).before args0 about1 = true := code_word (m := ⟨6, 0⟩) (meth := k6m0) (c := k6c0) (by decide +kernel) rfl rfl rfl (by decide +kernel)
def codes1 : List Jvm.Cond := [Jvm.Cond.code x code maxLocals ret, Jvm.Cond.code ({ cls := "com/example/minilingua/minilingua/lang/badkode/Condition", name := "spelled", desc := "(C)Lcom/example/minilingua/minilingua/lang/badkode/Condition;" } : Jvm.MethodName) prog_94_method_4_code (5 : Nat) (Option.some (Jvm.ClassFile.FieldType.object "com/example/minilingua/minilingua/lang/badkode/Condition"))]
set_option maxRecDepth 65536 in
theorem codes_eq : words1.filter isCode = codes1 := rfl
theorem w_codes : ∀ c ∈ words1.filter isCode, c.before args0 about1 = true := by
  rw [codes_eq]
  intro c hc
  simp only [codes1, List.mem_cons, List.not_mem_nil, or_false] at hc
  rcases hc with rfl | rfl
  · exact w_c0
  · exact w_c1
set_option maxRecDepth 65536 in
theorem w_t1 : words1.all (fun c => isCode c || c.before args0 about1) = true := by decide +kernel
theorem w_tables : (allAtoms (Jvm.Cond.code x code maxLocals ret :: tables_1)).before args0 about1 = true := by
  rw [allAtoms_all]
  show words1.all (fun c => c.before args0 about1) = true
  refine all_split ?_ w_codes
  rw [w_t1]
set_option maxRecDepth 65536 in
theorem w_case : (Jvm.Cond.and given_1 narrow_1).before args0 about1 = true := by decide +kernel
theorem w_applies : (headSpec (Jvm.Cond.code x code maxLocals ret :: tables_1) room_1).applies x e0.platform about1 = true :=
  (Spec.applies_iff w_frames).mpr ⟨w_running, w_runnable, w_alone, w_named, w_hears, w_ripe, w_room, w_tables⟩
theorem atStart : AtStart classFile x code maxLocals ret World_1 tables_1 room_1 Calls_1 rest_1 Pre_1 launch0 p0 e0 about1 theMethod args0 below0 :=
  ⟨lists_1, trivial, launch0.admits_env _ _ _, launch0.least_env, fairChoices_fair.cas, fairChoices_fair.clock, w_frames, w_args, w_heap, w_applies, trivial, trivial, w_case⟩
end start1
theorem witness_1 : WitnessClaimed_1 := ⟨start1.p0, start1.e0, start1.about1, start1.theMethod, start1.args0, start1.below0, start1.atStart⟩
end Jvm.Pilot.@@N@@
