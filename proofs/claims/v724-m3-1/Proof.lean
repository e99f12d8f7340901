import JvmDerived
import JvmDerived.Pilot.@@N@@Statement
import JvmDerived.Pilot.@@N@@Code
set_option linter.unusedVariables false
set_option linter.unusedSimpArgs false
namespace Jvm.Pilot.@@N@@
open Jvm Jvm.ClassFile Sem Op Lib Jvm.Free Jvm.Stand Jvm.LawKit Jvm.RoadKit Bundle Jvm.Pilot.@@N@@.Jvm.D
/-- from U the run comes to a state of which K holds -/
def own_Go (tb : Tables) (e : Env) (below : List Frame) (K : State → Prop) (U : State) : Prop := ∃ t, Steps tb e below U t ∧ K t
theorem own_by {tb : Tables} {e : Env} {below : List Frame} {K : State → Prop} {U U' : State} (k : ∀ t, Steps tb e below U' t → Steps tb e below U t) (h : own_Go tb e below K U') : own_Go tb e below K U := by
  obtain ⟨t, a, b⟩ := h
  exact ⟨t, k t a, b⟩
/-- what a returning instruction needs: the frames that it leaves, and that K holds there -/
def own_Out (e : Env) (m : MethodId) (K : State → Prop) (T : State) (v : Option Value) : Prop := ∃ fs, (∀ (f : JFrame) (acts : List Action), f.method = m → f.locked = none → f.entered = [] → (doReturn e (T.setTop f) acts v).1 = T.setFrames fs) ∧ K (T.setFrames fs)
theorem own_met {l : Launch} {y : MethodName} {bytes : ByteArray} {ml : Nat} {ret : Option FieldType} {ws : List Jvm.Cond} {rm : Room} {as' : Array Value} {Z : State} {h0 : Heap} {k n : Nat} {Q : Option Value → Heap → List Loc → Prop} (hp : plainFor y = true)
    (body : ∀ (p : Program) (e : Env) (s : State) (m : MethodId) (below : List Frame) (meth : Method) (c : Code) (s₁ : State) (K : State → Prop), p.tables.exec = Jvm.exec → c.code = bytes → c.maxLocals = ml → s.vm.findClass y.cls = some m.cls → meth.name = y.name → meth.sig.returnType = ret →
      Z.Warmed39 s.vm → Stand p l e rm s m as' below meth c s₁ [] 0 0 → s₁.heap = h0 →
      (∀ (v : Option Value) {T : State} {L : List Loc} {k' n' : Nat}, Stand p l e rm s m as' below meth c T L k' n' → (meth.sig.returnType = none → v = none) → Q v T.heap L → k' ≤ k → n' ≤ n → own_Out e m K T v) →
      own_Go p.tables e below K (s₁.setTop (entryFrame m as' ml))) :
    MetFree l y (head1 (Jvm.Cond.code y bytes ml ret :: ws) rm) (fun a U => a = as' ∧ Z.Warmed39 U.vm ∧ U.heap = h0) (fun _ _ _ _ _ => True) (fun _ U o U' => ∃ v L, o = .returned v ∧ Q v U'.heap L ∧ FrameEnd U o U' L k n) := by
  refine MetFree.of_bodySF hp hisR ?_
  intro p e s m args below meth c s₁ Bd hml0 hP hK
  obtain ⟨rfl, hZ, hh⟩ := hP
  have hown : s.vm.findClass y.cls = some m.cls := findClass_of_methodNamed Bd.named
  obtain ⟨t, hs, o, h1, h2, h3⟩ := body p e s m below meth c s₁ (fun t => ∃ o, t.status = .running ∧ Ended t below o ∧ ∃ v L, o = .returned v ∧ Q v t.heap L ∧ FrameEnd s o t L k n) Bd.exec Bd.bytes hml0 hown (name_of_methodNamed Bd.named Bd.method).1 Bd.returns hZ (Stand.of_body Bd) (by rw [← hh, Bd.state]; rfl) (by
    intro v T L k' n' X hv hq hk hn
    obtain ⟨fs, hr, hrun, hended, hW, hsame⟩ := X.leave (v := v) hv
    exact ⟨fs, hr, _, hrun, hended, v, L, rfl, hq, ⟨_, rfl⟩, hW, hsame.mono hk hn⟩)
  exact ⟨t, o, hs, h1, h2, h3⟩
section OwnRet
variable {p : Program} {l : Launch} {e : Env} {R : Room} {s : State} {m : MethodId} {args : Array Value} {below : List Frame} {meth : Method} {c : Code} {T : State} {locs : List Loc} {cells slots : Nat} {K : State → Prop}
theorem own_retI (X : Stand p l e R s m args below meth c T locs cells slots) (hx : p.tables.exec = Jvm.exec) (hret : meth.sig.returnType = some .int) {pc : Nat} {Ls : Array Slot} {z : Int32} {rest : List Value} (hd : decode c.code pc = .ok (.ireturn, 1)) (hq : own_Out e m K T (some (.int z))) : own_Go p.tables e below K (T.setTop (mkF m pc Ls (.int z :: rest))) := by
  obtain ⟨fs, hr, hk⟩ := hq
  exact ⟨_, retOut X hx hret rfl (Or.inl ⟨rfl, Or.inl rfl, _, rfl⟩) hd hr, hk⟩
theorem own_retZ (X : Stand p l e R s m args below meth c T locs cells slots) (hx : p.tables.exec = Jvm.exec) {t : FieldType} (hret : meth.sig.returnType = some t) (ht : t = .boolean ∨ t = .byte ∨ t = .char ∨ t = .short) {pc : Nat} {Ls : Array Slot} {z : Int32} {rest : List Value} (hd : decode c.code pc = .ok (.ireturn, 1)) (hq : own_Out e m K T (some (.int (nar t z)))) : own_Go p.tables e below K (T.setTop (mkF m pc Ls (.int z :: rest))) := by
  obtain ⟨fs, hr, hk⟩ := hq
  exact ⟨_, retN X hx hret ht hd hr, hk⟩
theorem own_retJ (X : Stand p l e R s m args below meth c T locs cells slots) (hx : p.tables.exec = Jvm.exec) (hret : meth.sig.returnType = some .long) {pc : Nat} {Ls : Array Slot} {z : Int64} {rest : List Value} (hd : decode c.code pc = .ok (.lreturn, 1)) (hq : own_Out e m K T (some (.long z))) : own_Go p.tables e below K (T.setTop (mkF m pc Ls (.long z :: rest))) := by
  obtain ⟨fs, hr, hk⟩ := hq
  exact ⟨_, retOut X hx hret rfl (Or.inr (Or.inl ⟨rfl, rfl, _, rfl⟩)) hd hr, hk⟩
theorem own_retA (X : Stand p l e R s m args below meth c T locs cells slots) (hx : p.tables.exec = Jvm.exec) {t : FieldType} (hret : meth.sig.returnType = some t) (ht : t.isReference = true) {pc : Nat} {Ls : Array Slot} {w : Value} {rest : List Value} (hn : narrow t w = w) (hw : w.isRef = true) (hd : decode c.code pc = .ok (.areturn, 1)) (hq : own_Out e m K T (some w)) : own_Go p.tables e below K (T.setTop (mkF m pc Ls (w :: rest))) := by
  obtain ⟨fs, hr, hk⟩ := hq
  exact ⟨_, retOut X hx hret hn (Or.inr (Or.inr (Or.inr (Or.inr ⟨rfl, ht, hw⟩)))) hd hr, hk⟩
theorem own_retV (X : Stand p l e R s m args below meth c T locs cells slots) (hx : p.tables.exec = Jvm.exec) (hret : meth.sig.returnType = none) {pc : Nat} {Ls : Array Slot} (hd : decode c.code pc = .ok (.return_, 1)) (hq : own_Out e m K T none) : own_Go p.tables e below K (T.setTop (mkF m pc Ls [])) := by
  obtain ⟨fs, hr, hk⟩ := hq
  exact ⟨_, X.returnOut hx hret hd hr, hk⟩
end OwnRet
theorem own_nar {C : String} {w : Value} (h : w.isRef = true) : narrow (.object C) w = w := by cases w <;> rfl
theorem own_fit {C : String} {w : Value} (h : w.isRef = true) : fits (.object C) w = true := by cases w <;> first | rfl | (simp [Value.isRef] at h)
theorem own_more {p : Program} {l : Launch} {e : Env} {R : Room} {s : State} {m : MethodId} {args : Array Value} {below : List Frame} {meth : Method} {c : Code} {T : State} {locs : List Loc} {k n k' n' : Nat} (X : Stand p l e R s m args below meth c T locs k n) (hk : k ≤ k') (hn : n ≤ n') : Stand p l e R s m args below meth c T locs k' n' := { X with same := X.same.mono hk hn }
/-- a condition as 0 or 1 -/
def own_tern (x : Int32) : Int32 := if x = 0 then 0 else 1
theorem own_t0 {x : Int32} (h : x = 0) : own_tern x = 0 := if_pos h
theorem own_t1 {x : Int32} (h : ¬ x = 0) : own_tern x = 1 := if_neg h
theorem own_t01 (x : Int32) : own_tern x = 0 ∨ own_tern x = 1 := by unfold own_tern; split <;> simp
theorem own_nb {x : Int32} (h : x = 0 ∨ x = 1) : nar .boolean x = x := by rcases h with rfl | rfl <;> rfl
theorem own_b53 (x : Int32) : B53 x.toInt64 := by
  have h1 := x.toInt_lt; have h2 := x.le_toInt
  unfold B53
  rw [Int32.toInt_toInt64]
  omega
theorem own_i64 (x y : Int32) : x.toInt64 < y.toInt64 ↔ x < y := by rw [Int64.lt_iff_toInt_lt, Int32.lt_iff_toInt_lt, Int32.toInt_toInt64, Int32.toInt_toInt64]
theorem own_ni {x y : Int32} (h : ¬ x = y) {n : Int} (e : y.toInt = n) : ¬ x.toInt = n := fun q => h (Int32.toInt_inj.mp (q.trans e.symm))
theorem own_llt {x y : Int64} (h : x < y) : ifCond.holds .lt (lcmpW x y) = true ∧ ifCond.holds .ge (lcmpW x y) = false := by
  have q := tlt (by rw [lcW]; exact (lc_lt x y).mpr h : lcmpW x y < 0)
  exact ⟨(if0 _ _).trans q.1, (if0 _ _).trans q.2.1⟩
theorem own_lge {x y : Int64} (h : ¬ x < y) : ifCond.holds .lt (lcmpW x y) = false ∧ ifCond.holds .ge (lcmpW x y) = true := by
  have q := flt (by rw [lcW]; exact fun z => h ((lc_lt x y).mp z) : ¬ lcmpW x y < 0)
  exact ⟨(if0 _ _).trans q.1, (if0 _ _).trans q.2.1⟩
theorem own_lgt {x y : Int64} (h : y < x) : ifCond.holds .gt (lcmpW x y) = true ∧ ifCond.holds .le (lcmpW x y) = false := by
  have q := tlt (by rw [lcW]; exact (lc_gt x y).mpr h : 0 < lcmpW x y)
  exact ⟨(if0 _ _).trans q.2.2.1, (if0 _ _).trans q.2.2.2⟩
theorem own_lle {x y : Int64} (h : ¬ y < x) : ifCond.holds .gt (lcmpW x y) = false ∧ ifCond.holds .le (lcmpW x y) = true := by
  have q := flt (by rw [lcW]; exact fun z => h ((lc_gt x y).mp z) : ¬ 0 < lcmpW x y)
  exact ⟨(if0 _ _).trans q.2.2.1, (if0 _ _).trans q.2.2.2⟩
theorem own_leq {x y : Int64} (h : x = y) : ifCond.holds .eq (lcmpW x y) = true ∧ ifCond.holds .ne (lcmpW x y) = false := by
  have q := teq (by rw [lcW]; exact (lc_eq x y).mpr h : lcmpW x y = 0)
  exact ⟨(if0 _ _).trans q.1, (if0 _ _).trans q.2⟩
theorem own_lne {x y : Int64} (h : ¬ x = y) : ifCond.holds .eq (lcmpW x y) = false ∧ ifCond.holds .ne (lcmpW x y) = true := by
  have q := feq (by rw [lcW]; exact fun z => h ((lc_eq x y).mp z) : ¬ lcmpW x y = 0)
  exact ⟨(if0 _ _).trans q.1, (if0 _ _).trans q.2⟩
/-- what is known of a Binding -/
def own_B (Z : State) (h : Heap) (a : Addr) (as lo sl : Int32) (ce : Value) : Prop := Exa Z h a "com/example/minilingua/minilingua/lang/adpl/Binding" ∧ Fld Z h a "com/example/minilingua/minilingua/lang/adpl/Binding" "assigned" "Z" (.int as) ∧ Fld Z h a "com/example/minilingua/minilingua/lang/adpl/Binding" "local" "Z" (.int lo) ∧ Fld Z h a "com/example/minilingua/minilingua/lang/adpl/Binding" "slot" "I" (.int sl) ∧ Fld Z h a "com/example/minilingua/minilingua/lang/adpl/Binding" "cell" "Lcom/example/minilingua/minilingua/lang/adpl/Value;" ce ∧ ce.isRef = true
theorem own_B.keep {Z : State} {h h' : Heap} {a : Addr} {as lo sl : Int32} {ce : Value} {ws : List Addr} (B : own_B Z h a as lo sl ce) (K : Keep h h' ws) (q : a ∉ ws) : own_B Z h' a as lo sl ce := ⟨B.1.keep K, B.2.1.keep K q, B.2.2.1.keep K q, B.2.2.2.1.keep K q, B.2.2.2.2.1.keep K q, B.2.2.2.2.2⟩
theorem own_B.ext {Z : State} {h h' : Heap} {a : Addr} {as lo sl : Int32} {ce : Value} (B : own_B Z h a as lo sl ce) (E : Ext h h') : own_B Z h' a as lo sl ce := ⟨B.1.ext E, B.2.1.ext E, B.2.2.1.ext E, B.2.2.2.1.ext E, B.2.2.2.2.1.ext E, B.2.2.2.2.2⟩
/-- what the flag b says of the cell's field -/
def own_ce (b : Int32) (ce : Value) : Prop := (b = 0 ∧ ce = .null) ∨ (b = 1 ∧ ∃ v, ce = .ref v)
theorem own_pn1 : plainName "com/example/minilingua/minilingua/lang/adpl/Binding" = true := by first | (simp [plainName, overriddenIn]; done) | decide +kernel
theorem own_d1_0 : decode prog_31_method_1_code 0 = .ok (.aload_n 0, 1) := by decide +kernel
theorem own_d1_1 : decode prog_31_method_1_code 1 = .ok (.invokespecial 1, 3) := by decide +kernel
theorem own_d1_4 : decode prog_31_method_1_code 4 = .ok (.return_, 1) := by decide +kernel
theorem own_efI (m : MethodId) (a1 : Addr) : entryFrame m #[(.ref a1)] 1 = mkF m 0 #[.val (.ref a1)] [] := by first | (simp [entryFrame, mkF, argsToLocals, Value.category]; done) | rfl
def own_QI (Z : State) (a1 : Addr) (h0 : Heap) (n0 : Nat) (v : Option Value) (h : Heap) (L : List Loc) : Prop := v = none ∧ Fr n0 L ∧ h = h0
set_option maxRecDepth 65536 in
set_option maxHeartbeats 40000000 in
theorem own_rmI (l : Launch) (Z : State) (a0 : Array Value) (hw : ∀ d ∈ tables_1, d.before a0 Z = true) (ws : List Jvm.Cond) (a1 : Addr) (h0 : Heap) (n0 : Nat) (Z0 : n0 ≤ h0.size)  :
    MetFree l (⟨"com/example/minilingua/minilingua/lang/adpl/Binding", "<init>", "()V"⟩ : MethodName) (head1 (Jvm.Cond.code (⟨"com/example/minilingua/minilingua/lang/adpl/Binding", "<init>", "()V"⟩ : MethodName) prog_31_method_1_code 1 none :: ws) ({ frames := 1, cells := 0, slots := 0, locals := 12 } : Room)) (fun a U => a = #[(.ref a1)] ∧ Z.Warmed39 U.vm ∧ U.heap = h0) (fun _ _ _ _ _ => True) (fun _ U o U' => ∃ v L, o = .returned v ∧ own_QI Z a1 h0 n0 v U'.heap L ∧ FrameEnd U o U' L ({ frames := 1, cells := 0, slots := 0, locals := 12 } : Room).cells ({ frames := 1, cells := 0, slots := 0, locals := 12 } : Room).slots) := by
  refine own_met (Q := own_QI Z a1 h0 n0) (plainFor_of_name own_pn1) ?_
  intro p e s m below meth c s₁ K hx hby hml hown hnm hret hZ X0 e0 hK
  have hown : s.vm.findClass "com/example/minilingua/minilingua/lang/adpl/Binding" = some m.cls := hown
  have hnm : meth.name = "<init>" := hnm
  have N0 := Fr.nil n0
  refine own_by (fun t k => castTop (own_efI m a1) k) ?_
  show own_Go p.tables e below K (s₁.setTop (mkF m 0 #[.val (.ref a1)] []))
  refine own_by (fun t k => XS.aloadN X0.here hx rfl (hb hby own_d1_0) rfl rfl k) ?_
  show own_Go p.tables e below K (s₁.setTop (mkF m 1 #[.val (.ref a1)] [(.ref a1)]))
  obtain ⟨T1, X1, e1, st1⟩ := initO X0 hx hZ hown (hw _ (List.mem_of_getElem? (i := 6) rfl)) (hw _ (List.mem_of_getElem? (i := 7) rfl)) (hw _ (List.mem_of_getElem? (i := 8) rfl)) e0 (g := (mkF m 1 #[.val (.ref a1)] [(.ref a1)])) rfl (by rw [hml]; rfl) rfl (hb hby own_d1_1) (by decide) (W := 0) (by show 2 * 0 + _ ≤ _; exact Nat.le_of_eq rfl) (by decide)
  refine own_by st1 ?_
  show own_Go p.tables e below K (T1.setTop (mkF m 4 #[.val (.ref a1)] []))
  exact own_retV X1 hx hret (hb hby own_d1_4) (hK none X1 (fun _ => rfl) (⟨rfl, N0, e1⟩) (by decide) (by decide))
theorem own_d3_0 : decode prog_31_method_6_code 0 = .ok (.aload_n 0, 1) := by decide +kernel
theorem own_d3_1 : decode prog_31_method_6_code 1 = .ok (.iload_n 1, 1) := by decide +kernel
theorem own_d3_2 : decode prog_31_method_6_code 2 = .ok (.putfield 16, 3) := by decide +kernel
theorem own_d3_5 : decode prog_31_method_6_code 5 = .ok (.aload_n 0, 1) := by decide +kernel
theorem own_d3_6 : decode prog_31_method_6_code 6 = .ok (.iload_n 2, 1) := by decide +kernel
theorem own_d3_7 : decode prog_31_method_6_code 7 = .ok (.putfield 13, 3) := by decide +kernel
theorem own_d3_10 : decode prog_31_method_6_code 10 = .ok (.return_, 1) := by decide +kernel
theorem own_efslotW (m : MethodId) (a1 : Addr) (q1 : Int32) (q2 : Int32) : entryFrame m #[(.ref a1), (.int q1), (.int q2)] 3 = mkF m 0 #[.val (.ref a1), .val (.int q1), .val (.int q2)] [] := by first | (simp [entryFrame, mkF, argsToLocals, Value.category]; done) | rfl
def own_QslotW (Z : State) (a1 : Addr) (q1 : Int32) (q2 : Int32) (as : Int32) (lo : Int32) (sl : Int32) (ce : Value) (h0 : Heap) (n0 : Nat) (v : Option Value) (h : Heap) (L : List Loc) : Prop := v = none ∧ Fr n0 L ∧ Keep h0 h [a1] ∧ own_B Z h a1 as (nar .boolean q2) q1 ce
set_option maxRecDepth 65536 in
set_option maxHeartbeats 40000000 in
theorem own_rmslotW (l : Launch) (Z : State) (a0 : Array Value) (hw : ∀ d ∈ tables_1, d.before a0 Z = true) (ws : List Jvm.Cond) (a1 : Addr) (q1 : Int32) (q2 : Int32) (as : Int32) (lo : Int32) (sl : Int32) (ce : Value) (h0 : Heap) (n0 : Nat) (Z0 : n0 ≤ h0.size) (B0 : own_B Z h0 a1 as lo sl ce) (ga : n0 ≤ a1)  :
    MetFree l (⟨"com/example/minilingua/minilingua/lang/adpl/Binding", "placeInSlot", "(IZ)V"⟩ : MethodName) (head1 (Jvm.Cond.code (⟨"com/example/minilingua/minilingua/lang/adpl/Binding", "placeInSlot", "(IZ)V"⟩ : MethodName) prog_31_method_6_code 3 none :: ws) ({ frames := 0, cells := 0, slots := 0, locals := 0 } : Room)) (fun a U => a = #[(.ref a1), (.int q1), (.int q2)] ∧ Z.Warmed39 U.vm ∧ U.heap = h0) (fun _ _ _ _ _ => True) (fun _ U o U' => ∃ v L, o = .returned v ∧ own_QslotW Z a1 q1 q2 as lo sl ce h0 n0 v U'.heap L ∧ FrameEnd U o U' L ({ frames := 0, cells := 0, slots := 0, locals := 0 } : Room).cells ({ frames := 0, cells := 0, slots := 0, locals := 0 } : Room).slots) := by
  refine own_met (Q := own_QslotW Z a1 q1 q2 as lo sl ce h0 n0) (plainFor_of_name own_pn1) ?_
  intro p e s m below meth c s₁ K hx hby hml hown hnm hret hZ X0 e0 hK
  have hown : s.vm.findClass "com/example/minilingua/minilingua/lang/adpl/Binding" = some m.cls := hown
  have N0 := Fr.nil n0
  refine own_by (fun t k => castTop (own_efslotW m a1 q1 q2) k) ?_
  show own_Go p.tables e below K (s₁.setTop (mkF m 0 #[.val (.ref a1), .val (.int q1), .val (.int q2)] []))
  refine own_by (fun t k => XS.aloadN X0.here hx rfl (hb hby own_d3_0) rfl rfl k) ?_
  show own_Go p.tables e below K (s₁.setTop (mkF m 1 #[.val (.ref a1), .val (.int q1), .val (.int q2)] [(.ref a1)]))
  refine own_by (fun t k => XS.iloadN X0.here hx rfl (hb hby own_d3_1) rfl k) ?_
  show own_Go p.tables e below K (s₁.setTop (mkF m 2 #[.val (.ref a1), .val (.int q1), .val (.int q2)] [(.int q1), (.ref a1)]))
  obtain ⟨T2, h2, X2, e2, W2, st2⟩ := putF X0 hx hZ hown (host := "") (Or.inl (hw _ (List.mem_of_getElem? (i := 14) rfl))) Via.refl e0 B0.2.2.2.1 B0.1 (Or.inl (hw _ (List.mem_of_getElem? (i := 15) rfl))) (hw _ (List.mem_of_getElem? (i := 1) rfl)) (ty := .int) (by decide) rfl rfl (g := (mkF m 2 #[.val (.ref a1), .val (.int q1), .val (.int q2)] [(.int q1), (.ref a1)])) rfl rfl (hb hby own_d3_2)
  refine own_by st2 ?_
  have F2_assigned_a1 := B0.2.1.other W2 (Or.inr (slot_ne (Or.inl (hw _ (List.mem_of_getElem? (i := 24) rfl))) (Or.inl (hw _ (List.mem_of_getElem? (i := 15) rfl))) (by decide) (t := .boolean) (t' := .int) (by decide) (by decide)))
  have F2_local_a1 := B0.2.2.1.other W2 (Or.inr (slot_ne (Or.inl (hw _ (List.mem_of_getElem? (i := 17) rfl))) (Or.inl (hw _ (List.mem_of_getElem? (i := 15) rfl))) (by decide) (t := .boolean) (t' := .int) (by decide) (by decide)))
  have F2_slot_a1 := B0.2.2.2.1.same W2
  have F2_cell_a1 := B0.2.2.2.2.1.other W2 (Or.inr (slot_ne (Or.inl (hw _ (List.mem_of_getElem? (i := 26) rfl))) (Or.inl (hw _ (List.mem_of_getElem? (i := 15) rfl))) (by decide) (t := (.object "com/example/minilingua/minilingua/lang/adpl/Value")) (t' := .int) (by decide) (by decide)))
  have Ex2_a1 := B0.1.wr W2
  have K2 := (Keep.refl h0 [a1]).wr W2 (Or.inl (by simp))
  have Z2 := Nat.le_trans Z0 (Keep.of_wr W2).1
  have N2 := Fr.snoc X2 N0 ga
  show own_Go p.tables e below K (T2.setTop (mkF m 5 #[.val (.ref a1), .val (.int q1), .val (.int q2)] []))
  refine own_by (fun t k => XS.aloadN X2.here hx rfl (hb hby own_d3_5) rfl rfl k) ?_
  show own_Go p.tables e below K (T2.setTop (mkF m 6 #[.val (.ref a1), .val (.int q1), .val (.int q2)] [(.ref a1)]))
  refine own_by (fun t k => XS.iloadN X2.here hx rfl (hb hby own_d3_6) rfl k) ?_
  show own_Go p.tables e below K (T2.setTop (mkF m 7 #[.val (.ref a1), .val (.int q1), .val (.int q2)] [(.int q2), (.ref a1)]))
  obtain ⟨T3, h3, X3, e3, W3, st3⟩ := putFN X2 hx hZ hown (hw _ (List.mem_of_getElem? (i := 16) rfl)) Via.refl e2 F2_local_a1 Ex2_a1 (Or.inl (hw _ (List.mem_of_getElem? (i := 17) rfl))) (hw _ (List.mem_of_getElem? (i := 1) rfl)) (ty := .boolean) (v' := (.int (nar .boolean q2))) (by decide) rfl (fits_nar_bool _) (g := (mkF m 7 #[.val (.ref a1), .val (.int q1), .val (.int q2)] [(.int q2), (.ref a1)])) rfl rfl (hb hby own_d3_7)
  refine own_by st3 ?_
  have F3_assigned_a1 := F2_assigned_a1.other W3 (Or.inr (slot_ne (Or.inl (hw _ (List.mem_of_getElem? (i := 24) rfl))) (Or.inl (hw _ (List.mem_of_getElem? (i := 17) rfl))) (by decide) (t := .boolean) (t' := .boolean) (by decide) (by decide)))
  have F3_local_a1 := F2_local_a1.same W3
  have F3_slot_a1 := F2_slot_a1.other W3 (Or.inr (slot_ne (Or.inl (hw _ (List.mem_of_getElem? (i := 15) rfl))) (Or.inl (hw _ (List.mem_of_getElem? (i := 17) rfl))) (by decide) (t := .int) (t' := .boolean) (by decide) (by decide)))
  have F3_cell_a1 := F2_cell_a1.other W3 (Or.inr (slot_ne (Or.inl (hw _ (List.mem_of_getElem? (i := 26) rfl))) (Or.inl (hw _ (List.mem_of_getElem? (i := 17) rfl))) (by decide) (t := (.object "com/example/minilingua/minilingua/lang/adpl/Value")) (t' := .boolean) (by decide) (by decide)))
  have Ex3_a1 := Ex2_a1.wr W3
  have K3 := K2.wr W3 (Or.inl (by simp))
  have Z3 := Nat.le_trans Z2 (Keep.of_wr W3).1
  have N3 := Fr.snoc X3 N2 ga
  show own_Go p.tables e below K (T3.setTop (mkF m 10 #[.val (.ref a1), .val (.int q1), .val (.int q2)] []))
  exact own_retV X3 hx hret (hb hby own_d3_10) (hK none X3 (fun _ => rfl) (by rw [e3]; exact ⟨rfl, N3, K3, ⟨Ex3_a1, F3_assigned_a1, F3_local_a1, F3_slot_a1, F3_cell_a1, B0.2.2.2.2.2⟩⟩) (by decide) (by decide))
theorem own_d9_0 : decode prog_31_method_3_code 0 = .ok (.aload_n 0, 1) := by decide +kernel
theorem own_d9_1 : decode prog_31_method_3_code 1 = .ok (.iconst 1, 1) := by decide +kernel
theorem own_d9_2 : decode prog_31_method_3_code 2 = .ok (.putfield 7, 3) := by decide +kernel
theorem own_d9_5 : decode prog_31_method_3_code 5 = .ok (.return_, 1) := by decide +kernel
theorem own_efmark (m : MethodId) (a1 : Addr) : entryFrame m #[(.ref a1)] 1 = mkF m 0 #[.val (.ref a1)] [] := by first | (simp [entryFrame, mkF, argsToLocals, Value.category]; done) | rfl
def own_Qmark (Z : State) (a1 : Addr)  (as : Int32) (lo : Int32) (sl : Int32) (ce : Value) (h0 : Heap) (n0 : Nat) (v : Option Value) (h : Heap) (L : List Loc) : Prop := v = none ∧ Fr n0 L ∧ Keep h0 h [a1] ∧ own_B Z h a1 1 lo sl ce
set_option maxRecDepth 65536 in
set_option maxHeartbeats 40000000 in
theorem own_rmmark (l : Launch) (Z : State) (a0 : Array Value) (hw : ∀ d ∈ tables_1, d.before a0 Z = true) (ws : List Jvm.Cond) (a1 : Addr)  (as : Int32) (lo : Int32) (sl : Int32) (ce : Value) (h0 : Heap) (n0 : Nat) (Z0 : n0 ≤ h0.size) (B0 : own_B Z h0 a1 as lo sl ce) (ga : n0 ≤ a1)  :
    MetFree l (⟨"com/example/minilingua/minilingua/lang/adpl/Binding", "markAssigned", "()V"⟩ : MethodName) (head1 (Jvm.Cond.code (⟨"com/example/minilingua/minilingua/lang/adpl/Binding", "markAssigned", "()V"⟩ : MethodName) prog_31_method_3_code 1 none :: ws) ({ frames := 0, cells := 0, slots := 0, locals := 0 } : Room)) (fun a U => a = #[(.ref a1)] ∧ Z.Warmed39 U.vm ∧ U.heap = h0) (fun _ _ _ _ _ => True) (fun _ U o U' => ∃ v L, o = .returned v ∧ own_Qmark Z a1 as lo sl ce h0 n0 v U'.heap L ∧ FrameEnd U o U' L ({ frames := 0, cells := 0, slots := 0, locals := 0 } : Room).cells ({ frames := 0, cells := 0, slots := 0, locals := 0 } : Room).slots) := by
  refine own_met (Q := own_Qmark Z a1 as lo sl ce h0 n0) (plainFor_of_name own_pn1) ?_
  intro p e s m below meth c s₁ K hx hby hml hown hnm hret hZ X0 e0 hK
  have hown : s.vm.findClass "com/example/minilingua/minilingua/lang/adpl/Binding" = some m.cls := hown
  have N0 := Fr.nil n0
  refine own_by (fun t k => castTop (own_efmark m a1) k) ?_
  show own_Go p.tables e below K (s₁.setTop (mkF m 0 #[.val (.ref a1)] []))
  refine own_by (fun t k => XS.aloadN X0.here hx rfl (hb hby own_d9_0) rfl rfl k) ?_
  show own_Go p.tables e below K (s₁.setTop (mkF m 1 #[.val (.ref a1)] [(.ref a1)]))
  refine own_by (fun t k => XS.iconst X0.here hx rfl (hb hby own_d9_1) k) ?_
  show own_Go p.tables e below K (s₁.setTop (mkF m 2 #[.val (.ref a1)] [(.int (1 : Int32)), (.ref a1)]))
  obtain ⟨T4, h4, X4, e4, W4, st4⟩ := putFN X0 hx hZ hown (hw _ (List.mem_of_getElem? (i := 23) rfl)) Via.refl e0 B0.2.1 B0.1 (Or.inl (hw _ (List.mem_of_getElem? (i := 24) rfl))) (hw _ (List.mem_of_getElem? (i := 1) rfl)) (ty := .boolean) (v' := (.int (nar .boolean (1 : Int32)))) (by decide) rfl (fits_nar_bool _) (g := (mkF m 2 #[.val (.ref a1)] [(.int (1 : Int32)), (.ref a1)])) rfl rfl (hb hby own_d9_2)
  refine own_by st4 ?_
  have F4_assigned_a1 := B0.2.1.same W4
  have F4_local_a1 := B0.2.2.1.other W4 (Or.inr (slot_ne (Or.inl (hw _ (List.mem_of_getElem? (i := 17) rfl))) (Or.inl (hw _ (List.mem_of_getElem? (i := 24) rfl))) (by decide) (t := .boolean) (t' := .boolean) (by decide) (by decide)))
  have F4_slot_a1 := B0.2.2.2.1.other W4 (Or.inr (slot_ne (Or.inl (hw _ (List.mem_of_getElem? (i := 15) rfl))) (Or.inl (hw _ (List.mem_of_getElem? (i := 24) rfl))) (by decide) (t := .int) (t' := .boolean) (by decide) (by decide)))
  have F4_cell_a1 := B0.2.2.2.2.1.other W4 (Or.inr (slot_ne (Or.inl (hw _ (List.mem_of_getElem? (i := 26) rfl))) (Or.inl (hw _ (List.mem_of_getElem? (i := 24) rfl))) (by decide) (t := (.object "com/example/minilingua/minilingua/lang/adpl/Value")) (t' := .boolean) (by decide) (by decide)))
  have Ex4_a1 := B0.1.wr W4
  have K4 := (Keep.refl h0 [a1]).wr W4 (Or.inl (by simp))
  have Z4 := Nat.le_trans Z0 (Keep.of_wr W4).1
  have N4 := Fr.snoc X4 N0 ga
  show own_Go p.tables e below K (T4.setTop (mkF m 5 #[.val (.ref a1)] []))
  exact own_retV X4 hx hret (hb hby own_d9_5) (hK none X4 (fun _ => rfl) (by rw [e4]; exact ⟨rfl, N4, K4, ⟨Ex4_a1, F4_assigned_a1, F4_local_a1, F4_slot_a1, F4_cell_a1, B0.2.2.2.2.2⟩⟩) (by decide) (by decide))
theorem own_d4_0 : decode prog_31_method_9_code 0 = .ok (.aload_n 0, 1) := by decide +kernel
theorem own_d4_1 : decode prog_31_method_9_code 1 = .ok (.aload_n 1, 1) := by decide +kernel
theorem own_d4_2 : decode prog_31_method_9_code 2 = .ok (.getfield 7, 3) := by decide +kernel
theorem own_d4_5 : decode prog_31_method_9_code 5 = .ok (.putfield 7, 3) := by decide +kernel
theorem own_d4_8 : decode prog_31_method_9_code 8 = .ok (.aload_n 0, 1) := by decide +kernel
theorem own_d4_9 : decode prog_31_method_9_code 9 = .ok (.iconst 0, 1) := by decide +kernel
theorem own_d4_10 : decode prog_31_method_9_code 10 = .ok (.putfield 13, 3) := by decide +kernel
theorem own_d4_13 : decode prog_31_method_9_code 13 = .ok (.aload_n 0, 1) := by decide +kernel
theorem own_d4_14 : decode prog_31_method_9_code 14 = .ok (.aload_n 1, 1) := by decide +kernel
theorem own_d4_15 : decode prog_31_method_9_code 15 = .ok (.getfield 16, 3) := by decide +kernel
theorem own_d4_18 : decode prog_31_method_9_code 18 = .ok (.putfield 16, 3) := by decide +kernel
theorem own_d4_21 : decode prog_31_method_9_code 21 = .ok (.aload_n 0, 1) := by decide +kernel
theorem own_d4_22 : decode prog_31_method_9_code 22 = .ok (.aload_n 1, 1) := by decide +kernel
theorem own_d4_23 : decode prog_31_method_9_code 23 = .ok (.getfield 20, 3) := by decide +kernel
theorem own_d4_26 : decode prog_31_method_9_code 26 = .ok (.putfield 20, 3) := by decide +kernel
theorem own_d4_29 : decode prog_31_method_9_code 29 = .ok (.return_, 1) := by decide +kernel
theorem own_efas (m : MethodId) (a1 : Addr) (a2 : Addr) : entryFrame m #[(.ref a1), (.ref a2)] 2 = mkF m 0 #[.val (.ref a1), .val (.ref a2)] [] := by first | (simp [entryFrame, mkF, argsToLocals, Value.category]; done) | rfl
def own_Qas (Z : State) (a1 : Addr) (a2 : Addr) (as2 : Int32) (lo2 : Int32) (sl2 : Int32) (ce2 : Value) (as : Int32) (lo : Int32) (sl : Int32) (ce : Value) (h0 : Heap) (n0 : Nat) (v : Option Value) (h : Heap) (L : List Loc) : Prop := v = none ∧ Fr n0 L ∧ Keep h0 h [a1] ∧ own_B Z h a1 (nar .boolean as2) 0 sl2 ce2
set_option maxRecDepth 65536 in
set_option maxHeartbeats 40000000 in
theorem own_rmas (l : Launch) (Z : State) (a0 : Array Value) (hw : ∀ d ∈ tables_1, d.before a0 Z = true) (ws : List Jvm.Cond) (a1 : Addr) (a2 : Addr) (as2 : Int32) (lo2 : Int32) (sl2 : Int32) (ce2 : Value) (as : Int32) (lo : Int32) (sl : Int32) (ce : Value) (h0 : Heap) (n0 : Nat) (Z0 : n0 ≤ h0.size) (B0 : own_B Z h0 a1 as lo sl ce) (ga : n0 ≤ a1) (B1 : own_B Z h0 a2 as2 lo2 sl2 ce2) (hne : a1 ≠ a2) :
    MetFree l (⟨"com/example/minilingua/minilingua/lang/adpl/Binding", "placeAs", "(Lcom/example/minilingua/minilingua/lang/adpl/Binding;)V"⟩ : MethodName) (head1 (Jvm.Cond.code (⟨"com/example/minilingua/minilingua/lang/adpl/Binding", "placeAs", "(Lcom/example/minilingua/minilingua/lang/adpl/Binding;)V"⟩ : MethodName) prog_31_method_9_code 2 none :: ws) ({ frames := 0, cells := 0, slots := 0, locals := 0 } : Room)) (fun a U => a = #[(.ref a1), (.ref a2)] ∧ Z.Warmed39 U.vm ∧ U.heap = h0) (fun _ _ _ _ _ => True) (fun _ U o U' => ∃ v L, o = .returned v ∧ own_Qas Z a1 a2 as2 lo2 sl2 ce2 as lo sl ce h0 n0 v U'.heap L ∧ FrameEnd U o U' L ({ frames := 0, cells := 0, slots := 0, locals := 0 } : Room).cells ({ frames := 0, cells := 0, slots := 0, locals := 0 } : Room).slots) := by
  refine own_met (Q := own_Qas Z a1 a2 as2 lo2 sl2 ce2 as lo sl ce h0 n0) (plainFor_of_name own_pn1) ?_
  intro p e s m below meth c s₁ K hx hby hml hown hnm hret hZ X0 e0 hK
  have hown : s.vm.findClass "com/example/minilingua/minilingua/lang/adpl/Binding" = some m.cls := hown
  have N0 := Fr.nil n0
  refine own_by (fun t k => castTop (own_efas m a1 a2) k) ?_
  show own_Go p.tables e below K (s₁.setTop (mkF m 0 #[.val (.ref a1), .val (.ref a2)] []))
  refine own_by (fun t k => XS.aloadN X0.here hx rfl (hb hby own_d4_0) rfl rfl k) ?_
  show own_Go p.tables e below K (s₁.setTop (mkF m 1 #[.val (.ref a1), .val (.ref a2)] [(.ref a1)]))
  refine own_by (fun t k => XS.aloadN X0.here hx rfl (hb hby own_d4_1) rfl rfl k) ?_
  show own_Go p.tables e below K (s₁.setTop (mkF m 2 #[.val (.ref a1), .val (.ref a2)] [(.ref a2), (.ref a1)]))
  obtain ⟨T5, X5, e5, st5⟩ := getF X0 hx hZ hown (host := "") (Or.inl (hw _ (List.mem_of_getElem? (i := 23) rfl))) Via.refl e0 B1.2.1 (g := (mkF m 2 #[.val (.ref a1), .val (.ref a2)] [(.ref a2), (.ref a1)])) rfl rfl (hb hby own_d4_2)
  refine own_by st5 ?_
  show own_Go p.tables e below K (T5.setTop (mkF m 5 #[.val (.ref a1), .val (.ref a2)] [(.int as2), (.ref a1)]))
  obtain ⟨T6, h6, X6, e6, W6, st6⟩ := putFN X5 hx hZ hown (hw _ (List.mem_of_getElem? (i := 23) rfl)) Via.refl e5 B0.2.1 B0.1 (Or.inl (hw _ (List.mem_of_getElem? (i := 24) rfl))) (hw _ (List.mem_of_getElem? (i := 1) rfl)) (ty := .boolean) (v' := (.int (nar .boolean as2))) (by decide) rfl (fits_nar_bool _) (g := (mkF m 5 #[.val (.ref a1), .val (.ref a2)] [(.int as2), (.ref a1)])) rfl rfl (hb hby own_d4_5)
  refine own_by st6 ?_
  have F6_assigned_a1 := B0.2.1.same W6
  have F6_local_a1 := B0.2.2.1.other W6 (Or.inr (slot_ne (Or.inl (hw _ (List.mem_of_getElem? (i := 17) rfl))) (Or.inl (hw _ (List.mem_of_getElem? (i := 24) rfl))) (by decide) (t := .boolean) (t' := .boolean) (by decide) (by decide)))
  have F6_slot_a1 := B0.2.2.2.1.other W6 (Or.inr (slot_ne (Or.inl (hw _ (List.mem_of_getElem? (i := 15) rfl))) (Or.inl (hw _ (List.mem_of_getElem? (i := 24) rfl))) (by decide) (t := .int) (t' := .boolean) (by decide) (by decide)))
  have F6_cell_a1 := B0.2.2.2.2.1.other W6 (Or.inr (slot_ne (Or.inl (hw _ (List.mem_of_getElem? (i := 26) rfl))) (Or.inl (hw _ (List.mem_of_getElem? (i := 24) rfl))) (by decide) (t := (.object "com/example/minilingua/minilingua/lang/adpl/Value")) (t' := .boolean) (by decide) (by decide)))
  have F6_assigned_a2 := B1.2.1.other W6 (Or.inl (Ne.symm hne))
  have F6_local_a2 := B1.2.2.1.other W6 (Or.inl (Ne.symm hne))
  have F6_slot_a2 := B1.2.2.2.1.other W6 (Or.inl (Ne.symm hne))
  have F6_cell_a2 := B1.2.2.2.2.1.other W6 (Or.inl (Ne.symm hne))
  have Ex6_a1 := B0.1.wr W6
  have Ex6_a2 := B1.1.wr W6
  have K6 := (Keep.refl h0 [a1]).wr W6 (Or.inl (by simp))
  have Z6 := Nat.le_trans Z0 (Keep.of_wr W6).1
  have N6 := Fr.snoc X6 N0 ga
  show own_Go p.tables e below K (T6.setTop (mkF m 8 #[.val (.ref a1), .val (.ref a2)] []))
  refine own_by (fun t k => XS.aloadN X6.here hx rfl (hb hby own_d4_8) rfl rfl k) ?_
  show own_Go p.tables e below K (T6.setTop (mkF m 9 #[.val (.ref a1), .val (.ref a2)] [(.ref a1)]))
  refine own_by (fun t k => XS.iconst X6.here hx rfl (hb hby own_d4_9) k) ?_
  show own_Go p.tables e below K (T6.setTop (mkF m 10 #[.val (.ref a1), .val (.ref a2)] [(.int (0 : Int32)), (.ref a1)]))
  obtain ⟨T7, h7, X7, e7, W7, st7⟩ := putFN X6 hx hZ hown (hw _ (List.mem_of_getElem? (i := 16) rfl)) Via.refl e6 F6_local_a1 Ex6_a1 (Or.inl (hw _ (List.mem_of_getElem? (i := 17) rfl))) (hw _ (List.mem_of_getElem? (i := 1) rfl)) (ty := .boolean) (v' := (.int (nar .boolean (0 : Int32)))) (by decide) rfl (fits_nar_bool _) (g := (mkF m 10 #[.val (.ref a1), .val (.ref a2)] [(.int (0 : Int32)), (.ref a1)])) rfl rfl (hb hby own_d4_10)
  refine own_by st7 ?_
  have F7_assigned_a1 := F6_assigned_a1.other W7 (Or.inr (slot_ne (Or.inl (hw _ (List.mem_of_getElem? (i := 24) rfl))) (Or.inl (hw _ (List.mem_of_getElem? (i := 17) rfl))) (by decide) (t := .boolean) (t' := .boolean) (by decide) (by decide)))
  have F7_local_a1 := F6_local_a1.same W7
  have F7_slot_a1 := F6_slot_a1.other W7 (Or.inr (slot_ne (Or.inl (hw _ (List.mem_of_getElem? (i := 15) rfl))) (Or.inl (hw _ (List.mem_of_getElem? (i := 17) rfl))) (by decide) (t := .int) (t' := .boolean) (by decide) (by decide)))
  have F7_cell_a1 := F6_cell_a1.other W7 (Or.inr (slot_ne (Or.inl (hw _ (List.mem_of_getElem? (i := 26) rfl))) (Or.inl (hw _ (List.mem_of_getElem? (i := 17) rfl))) (by decide) (t := (.object "com/example/minilingua/minilingua/lang/adpl/Value")) (t' := .boolean) (by decide) (by decide)))
  have F7_assigned_a2 := F6_assigned_a2.other W7 (Or.inl (Ne.symm hne))
  have F7_local_a2 := F6_local_a2.other W7 (Or.inl (Ne.symm hne))
  have F7_slot_a2 := F6_slot_a2.other W7 (Or.inl (Ne.symm hne))
  have F7_cell_a2 := F6_cell_a2.other W7 (Or.inl (Ne.symm hne))
  have Ex7_a1 := Ex6_a1.wr W7
  have Ex7_a2 := Ex6_a2.wr W7
  have K7 := K6.wr W7 (Or.inl (by simp))
  have Z7 := Nat.le_trans Z6 (Keep.of_wr W7).1
  have N7 := Fr.snoc X7 N6 ga
  show own_Go p.tables e below K (T7.setTop (mkF m 13 #[.val (.ref a1), .val (.ref a2)] []))
  refine own_by (fun t k => XS.aloadN X7.here hx rfl (hb hby own_d4_13) rfl rfl k) ?_
  show own_Go p.tables e below K (T7.setTop (mkF m 14 #[.val (.ref a1), .val (.ref a2)] [(.ref a1)]))
  refine own_by (fun t k => XS.aloadN X7.here hx rfl (hb hby own_d4_14) rfl rfl k) ?_
  show own_Go p.tables e below K (T7.setTop (mkF m 15 #[.val (.ref a1), .val (.ref a2)] [(.ref a2), (.ref a1)]))
  obtain ⟨T8, X8, e8, st8⟩ := getF X7 hx hZ hown (host := "") (Or.inl (hw _ (List.mem_of_getElem? (i := 14) rfl))) Via.refl e7 F7_slot_a2 (g := (mkF m 15 #[.val (.ref a1), .val (.ref a2)] [(.ref a2), (.ref a1)])) rfl rfl (hb hby own_d4_15)
  refine own_by st8 ?_
  show own_Go p.tables e below K (T8.setTop (mkF m 18 #[.val (.ref a1), .val (.ref a2)] [(.int sl2), (.ref a1)]))
  obtain ⟨T9, h9, X9, e9, W9, st9⟩ := putF X8 hx hZ hown (host := "") (Or.inl (hw _ (List.mem_of_getElem? (i := 14) rfl))) Via.refl e8 F7_slot_a1 Ex7_a1 (Or.inl (hw _ (List.mem_of_getElem? (i := 15) rfl))) (hw _ (List.mem_of_getElem? (i := 1) rfl)) (ty := .int) (by decide) rfl rfl (g := (mkF m 18 #[.val (.ref a1), .val (.ref a2)] [(.int sl2), (.ref a1)])) rfl rfl (hb hby own_d4_18)
  refine own_by st9 ?_
  have F9_assigned_a1 := F7_assigned_a1.other W9 (Or.inr (slot_ne (Or.inl (hw _ (List.mem_of_getElem? (i := 24) rfl))) (Or.inl (hw _ (List.mem_of_getElem? (i := 15) rfl))) (by decide) (t := .boolean) (t' := .int) (by decide) (by decide)))
  have F9_local_a1 := F7_local_a1.other W9 (Or.inr (slot_ne (Or.inl (hw _ (List.mem_of_getElem? (i := 17) rfl))) (Or.inl (hw _ (List.mem_of_getElem? (i := 15) rfl))) (by decide) (t := .boolean) (t' := .int) (by decide) (by decide)))
  have F9_slot_a1 := F7_slot_a1.same W9
  have F9_cell_a1 := F7_cell_a1.other W9 (Or.inr (slot_ne (Or.inl (hw _ (List.mem_of_getElem? (i := 26) rfl))) (Or.inl (hw _ (List.mem_of_getElem? (i := 15) rfl))) (by decide) (t := (.object "com/example/minilingua/minilingua/lang/adpl/Value")) (t' := .int) (by decide) (by decide)))
  have F9_assigned_a2 := F7_assigned_a2.other W9 (Or.inl (Ne.symm hne))
  have F9_local_a2 := F7_local_a2.other W9 (Or.inl (Ne.symm hne))
  have F9_slot_a2 := F7_slot_a2.other W9 (Or.inl (Ne.symm hne))
  have F9_cell_a2 := F7_cell_a2.other W9 (Or.inl (Ne.symm hne))
  have Ex9_a1 := Ex7_a1.wr W9
  have Ex9_a2 := Ex7_a2.wr W9
  have K9 := K7.wr W9 (Or.inl (by simp))
  have Z9 := Nat.le_trans Z7 (Keep.of_wr W9).1
  have N9 := Fr.snoc X9 N7 ga
  show own_Go p.tables e below K (T9.setTop (mkF m 21 #[.val (.ref a1), .val (.ref a2)] []))
  refine own_by (fun t k => XS.aloadN X9.here hx rfl (hb hby own_d4_21) rfl rfl k) ?_
  show own_Go p.tables e below K (T9.setTop (mkF m 22 #[.val (.ref a1), .val (.ref a2)] [(.ref a1)]))
  refine own_by (fun t k => XS.aloadN X9.here hx rfl (hb hby own_d4_22) rfl rfl k) ?_
  show own_Go p.tables e below K (T9.setTop (mkF m 23 #[.val (.ref a1), .val (.ref a2)] [(.ref a2), (.ref a1)]))
  obtain ⟨T10, X10, e10, st10⟩ := getF X9 hx hZ hown (host := "") (Or.inl (hw _ (List.mem_of_getElem? (i := 25) rfl))) Via.refl e9 F9_cell_a2 (g := (mkF m 23 #[.val (.ref a1), .val (.ref a2)] [(.ref a2), (.ref a1)])) rfl rfl (hb hby own_d4_23)
  refine own_by st10 ?_
  show own_Go p.tables e below K (T10.setTop (mkF m 26 #[.val (.ref a1), .val (.ref a2)] [ce2, (.ref a1)]))
  obtain ⟨T11, h11, X11, e11, W11, st11⟩ := putF X10 hx hZ hown (host := "") (Or.inl (hw _ (List.mem_of_getElem? (i := 25) rfl))) Via.refl e10 F9_cell_a1 Ex9_a1 (Or.inl (hw _ (List.mem_of_getElem? (i := 26) rfl))) (hw _ (List.mem_of_getElem? (i := 1) rfl)) (ty := (.object "com/example/minilingua/minilingua/lang/adpl/Value")) (by decide) (own_nar B1.2.2.2.2.2) (own_fit B1.2.2.2.2.2) (g := (mkF m 26 #[.val (.ref a1), .val (.ref a2)] [ce2, (.ref a1)])) rfl rfl (hb hby own_d4_26)
  refine own_by st11 ?_
  have F11_assigned_a1 := F9_assigned_a1.other W11 (Or.inr (slot_ne (Or.inl (hw _ (List.mem_of_getElem? (i := 24) rfl))) (Or.inl (hw _ (List.mem_of_getElem? (i := 26) rfl))) (by decide) (t := .boolean) (t' := (.object "com/example/minilingua/minilingua/lang/adpl/Value")) (by decide) (by decide)))
  have F11_local_a1 := F9_local_a1.other W11 (Or.inr (slot_ne (Or.inl (hw _ (List.mem_of_getElem? (i := 17) rfl))) (Or.inl (hw _ (List.mem_of_getElem? (i := 26) rfl))) (by decide) (t := .boolean) (t' := (.object "com/example/minilingua/minilingua/lang/adpl/Value")) (by decide) (by decide)))
  have F11_slot_a1 := F9_slot_a1.other W11 (Or.inr (slot_ne (Or.inl (hw _ (List.mem_of_getElem? (i := 15) rfl))) (Or.inl (hw _ (List.mem_of_getElem? (i := 26) rfl))) (by decide) (t := .int) (t' := (.object "com/example/minilingua/minilingua/lang/adpl/Value")) (by decide) (by decide)))
  have F11_cell_a1 := F9_cell_a1.same W11
  have F11_assigned_a2 := F9_assigned_a2.other W11 (Or.inl (Ne.symm hne))
  have F11_local_a2 := F9_local_a2.other W11 (Or.inl (Ne.symm hne))
  have F11_slot_a2 := F9_slot_a2.other W11 (Or.inl (Ne.symm hne))
  have F11_cell_a2 := F9_cell_a2.other W11 (Or.inl (Ne.symm hne))
  have Ex11_a1 := Ex9_a1.wr W11
  have Ex11_a2 := Ex9_a2.wr W11
  have K11 := K9.wr W11 (Or.inl (by simp))
  have Z11 := Nat.le_trans Z9 (Keep.of_wr W11).1
  have N11 := Fr.snoc X11 N9 ga
  show own_Go p.tables e below K (T11.setTop (mkF m 29 #[.val (.ref a1), .val (.ref a2)] []))
  exact own_retV X11 hx hret (hb hby own_d4_29) (hK none X11 (fun _ => rfl) (by rw [e11]; exact ⟨rfl, N11, K11, ⟨Ex11_a1, F11_assigned_a1, F11_local_a1, F11_slot_a1, F11_cell_a1, B1.2.2.2.2.2⟩⟩) (by decide) (by decide))
theorem own_pn12 : plainName "com/example/minilingua/minilingua/lang/adpl/Value" = true := by first | (simp [plainName, overriddenIn]; done) | decide +kernel
theorem own_d12_0 : decode prog_91_method_1_code 0 = .ok (.aload_n 0, 1) := by decide +kernel
theorem own_d12_1 : decode prog_91_method_1_code 1 = .ok (.invokespecial 1, 3) := by decide +kernel
theorem own_d12_4 : decode prog_91_method_1_code 4 = .ok (.aload_n 0, 1) := by decide +kernel
theorem own_d12_5 : decode prog_91_method_1_code 5 = .ok (.aload_n 1, 1) := by decide +kernel
theorem own_d12_6 : decode prog_91_method_1_code 6 = .ok (.putfield 7, 3) := by decide +kernel
theorem own_d12_9 : decode prog_91_method_1_code 9 = .ok (.aload_n 0, 1) := by decide +kernel
theorem own_d12_10 : decode prog_91_method_1_code 10 = .ok (.lload_n 2, 1) := by decide +kernel
theorem own_d12_11 : decode prog_91_method_1_code 11 = .ok (.putfield 13, 3) := by decide +kernel
theorem own_d12_14 : decode prog_91_method_1_code 14 = .ok (.return_, 1) := by decide +kernel
theorem own_efVI (m : MethodId) (a1 : Addr) (kp : Addr) (j1 : Int64) : entryFrame m #[(.ref a1), (.ref kp), (.long j1)] 4 = mkF m 0 #[.val (.ref a1), .val (.ref kp), .val (.long j1), .second] [] := by first | (simp [entryFrame, mkF, argsToLocals, Value.category]; done) | rfl
def own_QVI (Z : State) (a1 : Addr) (kp : Addr) (j1 : Int64) (h0 : Heap) (n0 : Nat) (v : Option Value) (h : Heap) (L : List Loc) : Prop := v = none ∧ Fr n0 L ∧ Keep h0 h [a1]
set_option maxRecDepth 65536 in
set_option maxHeartbeats 40000000 in
theorem own_rmVI (l : Launch) (Z : State) (a0 : Array Value) (hw : ∀ d ∈ tables_1, d.before a0 Z = true) (ws : List Jvm.Cond) (a1 : Addr) (kp : Addr) (j1 : Int64) (h0 : Heap) (n0 : Nat) (Z0 : n0 ≤ h0.size) (E0 : Exa Z h0 a1 "com/example/minilingua/minilingua/lang/adpl/Value") (F0 : Fld Z h0 a1 "com/example/minilingua/minilingua/lang/adpl/Value" "kind" "Lcom/example/minilingua/minilingua/lang/adpl/Value$Kind;" .null) (F1 : Fld Z h0 a1 "com/example/minilingua/minilingua/lang/adpl/Value" "bits" "J" (.long 0)) (ga : n0 ≤ a1) :
    MetFree l (⟨"com/example/minilingua/minilingua/lang/adpl/Value", "<init>", "(Lcom/example/minilingua/minilingua/lang/adpl/Value$Kind;J)V"⟩ : MethodName) (head1 (Jvm.Cond.code (⟨"com/example/minilingua/minilingua/lang/adpl/Value", "<init>", "(Lcom/example/minilingua/minilingua/lang/adpl/Value$Kind;J)V"⟩ : MethodName) prog_91_method_1_code 4 none :: ws) ({ frames := 1, cells := 0, slots := 0, locals := 12 } : Room)) (fun a U => a = #[(.ref a1), (.ref kp), (.long j1)] ∧ Z.Warmed39 U.vm ∧ U.heap = h0) (fun _ _ _ _ _ => True) (fun _ U o U' => ∃ v L, o = .returned v ∧ own_QVI Z a1 kp j1 h0 n0 v U'.heap L ∧ FrameEnd U o U' L ({ frames := 1, cells := 0, slots := 0, locals := 12 } : Room).cells ({ frames := 1, cells := 0, slots := 0, locals := 12 } : Room).slots) := by
  refine own_met (Q := own_QVI Z a1 kp j1 h0 n0) (plainFor_of_name own_pn12) ?_
  intro p e s m below meth c s₁ K hx hby hml hown hnm hret hZ X0 e0 hK
  have hown : s.vm.findClass "com/example/minilingua/minilingua/lang/adpl/Value" = some m.cls := hown
  have hnm : meth.name = "<init>" := hnm
  have N0 := Fr.nil n0
  refine own_by (fun t k => castTop (own_efVI m a1 kp j1) k) ?_
  show own_Go p.tables e below K (s₁.setTop (mkF m 0 #[.val (.ref a1), .val (.ref kp), .val (.long j1), .second] []))
  refine own_by (fun t k => XS.aloadN X0.here hx rfl (hb hby own_d12_0) rfl rfl k) ?_
  show own_Go p.tables e below K (s₁.setTop (mkF m 1 #[.val (.ref a1), .val (.ref kp), .val (.long j1), .second] [(.ref a1)]))
  obtain ⟨T12, X12, e12, st12⟩ := initO X0 hx hZ hown (hw _ (List.mem_of_getElem? (i := 70) rfl)) (hw _ (List.mem_of_getElem? (i := 7) rfl)) (hw _ (List.mem_of_getElem? (i := 8) rfl)) e0 (g := (mkF m 1 #[.val (.ref a1), .val (.ref kp), .val (.long j1), .second] [(.ref a1)])) rfl (by rw [hml]; rfl) rfl (hb hby own_d12_1) (by decide) (W := 0) (by show 2 * 0 + _ ≤ _; exact Nat.le_of_eq rfl) (by decide)
  refine own_by st12 ?_
  show own_Go p.tables e below K (T12.setTop (mkF m 4 #[.val (.ref a1), .val (.ref kp), .val (.long j1), .second] []))
  refine own_by (fun t k => XS.aloadN X12.here hx rfl (hb hby own_d12_4) rfl rfl k) ?_
  show own_Go p.tables e below K (T12.setTop (mkF m 5 #[.val (.ref a1), .val (.ref kp), .val (.long j1), .second] [(.ref a1)]))
  refine own_by (fun t k => XS.aloadN X12.here hx rfl (hb hby own_d12_5) rfl rfl k) ?_
  show own_Go p.tables e below K (T12.setTop (mkF m 6 #[.val (.ref a1), .val (.ref kp), .val (.long j1), .second] [(.ref kp), (.ref a1)]))
  obtain ⟨T13, h13, X13, e13, W13, st13⟩ := putF X12 hx hZ hown (host := "") (Or.inl (hw _ (List.mem_of_getElem? (i := 71) rfl))) Via.refl e12 F0 E0 (Or.inr ⟨(hw _ (List.mem_of_getElem? (i := 72) rfl)), rfl, hnm⟩) (hw _ (List.mem_of_getElem? (i := 63) rfl)) (ty := (.object "com/example/minilingua/minilingua/lang/adpl/Value$Kind")) (by decide) rfl rfl (g := (mkF m 6 #[.val (.ref a1), .val (.ref kp), .val (.long j1), .second] [(.ref kp), (.ref a1)])) rfl rfl (hb hby own_d12_6)
  refine own_by st13 ?_
  have F13_kind_a1 := F0.same W13
  have F13_bits_a1 := F1.other W13 (Or.inr (slot_ne (Or.inr (hw _ (List.mem_of_getElem? (i := 74) rfl))) (Or.inr (hw _ (List.mem_of_getElem? (i := 72) rfl))) (by decide) (t := .long) (t' := (.object "com/example/minilingua/minilingua/lang/adpl/Value$Kind")) (by decide) (by decide)))
  have Ex13_a1 := E0.wr W13
  have K13 := (Keep.refl h0 [a1]).wr W13 (Or.inl (by simp))
  have Z13 := Nat.le_trans Z0 (Keep.of_wr W13).1
  have N13 := Fr.snoc X13 N0 ga
  show own_Go p.tables e below K (T13.setTop (mkF m 9 #[.val (.ref a1), .val (.ref kp), .val (.long j1), .second] []))
  refine own_by (fun t k => XS.aloadN X13.here hx rfl (hb hby own_d12_9) rfl rfl k) ?_
  show own_Go p.tables e below K (T13.setTop (mkF m 10 #[.val (.ref a1), .val (.ref kp), .val (.long j1), .second] [(.ref a1)]))
  refine own_by (fun t k => XS.lloadN X13.here hx rfl (hb hby own_d12_10) rfl k) ?_
  show own_Go p.tables e below K (T13.setTop (mkF m 11 #[.val (.ref a1), .val (.ref kp), .val (.long j1), .second] [(.long j1), (.ref a1)]))
  obtain ⟨T14, h14, X14, e14, W14, st14⟩ := putF X13 hx hZ hown (host := "") (Or.inl (hw _ (List.mem_of_getElem? (i := 73) rfl))) Via.refl e13 F13_bits_a1 Ex13_a1 (Or.inr ⟨(hw _ (List.mem_of_getElem? (i := 74) rfl)), rfl, hnm⟩) (hw _ (List.mem_of_getElem? (i := 63) rfl)) (ty := .long) (by decide) rfl rfl (g := (mkF m 11 #[.val (.ref a1), .val (.ref kp), .val (.long j1), .second] [(.long j1), (.ref a1)])) rfl rfl (hb hby own_d12_11)
  refine own_by st14 ?_
  have F14_kind_a1 := F13_kind_a1.other W14 (Or.inr (slot_ne (Or.inr (hw _ (List.mem_of_getElem? (i := 72) rfl))) (Or.inr (hw _ (List.mem_of_getElem? (i := 74) rfl))) (by decide) (t := (.object "com/example/minilingua/minilingua/lang/adpl/Value$Kind")) (t' := .long) (by decide) (by decide)))
  have F14_bits_a1 := F13_bits_a1.same W14
  have Ex14_a1 := Ex13_a1.wr W14
  have K14 := K13.wr W14 (Or.inl (by simp))
  have Z14 := Nat.le_trans Z13 (Keep.of_wr W14).1
  have N14 := Fr.snoc X14 N13 ga
  show own_Go p.tables e below K (T14.setTop (mkF m 14 #[.val (.ref a1), .val (.ref kp), .val (.long j1), .second] []))
  exact own_retV X14 hx hret (hb hby own_d12_14) (hK none X14 (fun _ => rfl) (by rw [e14]; exact ⟨rfl, N14, K14⟩) (by decide) (by decide))
theorem own_pd0 : parseMethodDescriptor "(Lcom/example/minilingua/minilingua/lang/adpl/Value$Kind;J)V" = some ⟨[(.object "com/example/minilingua/minilingua/lang/adpl/Value$Kind"), .long], none⟩ := by decide +kernel
theorem own_d11_0 : decode prog_91_method_4_code 0 = .ok (.new 8, 3) := by decide +kernel
theorem own_d11_3 : decode prog_91_method_4_code 3 = .ok (.dup, 1) := by decide +kernel
theorem own_d11_4 : decode prog_91_method_4_code 4 = .ok (.getstatic 34, 3) := by decide +kernel
theorem own_d11_7 : decode prog_91_method_4_code 7 = .ok (.lload_n 0, 1) := by decide +kernel
theorem own_d11_8 : decode prog_91_method_4_code 8 = .ok (.invokespecial 22, 3) := by decide +kernel
theorem own_d11_11 : decode prog_91_method_4_code 11 = .ok (.areturn, 1) := by decide +kernel
theorem own_efptr (m : MethodId) (j1 : Int64) : entryFrame m #[(.long j1)] 2 = mkF m 0 #[.val (.long j1), .second] [] := by first | (simp [entryFrame, mkF, argsToLocals, Value.category]; done) | rfl
def own_Qptr (Z : State) (j1 : Int64) (kp : Addr) (h0 : Heap) (n0 : Nat) (v : Option Value) (h : Heap) (L : List Loc) : Prop := ∃ r : Addr, v = some (.ref r) ∧ Fr n0 L ∧ Keep h0 h []
set_option maxRecDepth 65536 in
set_option maxHeartbeats 40000000 in
theorem own_rmptr (l : Launch) (Z : State) (a0 : Array Value) (hw : ∀ d ∈ tables_1, d.before a0 Z = true) (ws : List Jvm.Cond) (j1 : Int64) (kp : Addr) (h0 : Heap) (n0 : Nat) (Z0 : n0 ≤ h0.size) (S0 : Sta Z h0 "com/example/minilingua/minilingua/lang/adpl/Value$Kind" "POINTER" "Lcom/example/minilingua/minilingua/lang/adpl/Value$Kind;" (.ref kp)) :
    MetFree l (⟨"com/example/minilingua/minilingua/lang/adpl/Value", "pointer", "(J)Lcom/example/minilingua/minilingua/lang/adpl/Value;"⟩ : MethodName) (head1 (Jvm.Cond.code (⟨"com/example/minilingua/minilingua/lang/adpl/Value", "pointer", "(J)Lcom/example/minilingua/minilingua/lang/adpl/Value;"⟩ : MethodName) prog_91_method_4_code 2 (some (.object "com/example/minilingua/minilingua/lang/adpl/Value")) :: ws) ({ frames := 2, cells := 1, slots := 2, locals := 60 } : Room)) (fun a U => a = #[(.long j1)] ∧ Z.Warmed39 U.vm ∧ U.heap = h0) (fun _ _ _ _ _ => True) (fun _ U o U' => ∃ v L, o = .returned v ∧ own_Qptr Z j1 kp h0 n0 v U'.heap L ∧ FrameEnd U o U' L ({ frames := 2, cells := 1, slots := 2, locals := 60 } : Room).cells ({ frames := 2, cells := 1, slots := 2, locals := 60 } : Room).slots) := by
  refine own_met (Q := own_Qptr Z j1 kp h0 n0) (plainFor_of_name own_pn12) ?_
  intro p e s m below meth c s₁ K hx hby hml hown hnm hret hZ X0 e0 hK
  have hown : s.vm.findClass "com/example/minilingua/minilingua/lang/adpl/Value" = some m.cls := hown
  have N0 := Fr.nil n0
  refine own_by (fun t k => castTop (own_efptr m j1) k) ?_
  show own_Go p.tables e below K (s₁.setTop (mkF m 0 #[.val (.long j1), .second] []))
  obtain ⟨T15, h15, X15, e15, E15, A15, D15, -, st15⟩ := newO X0 hx hZ hown (hw _ (List.mem_of_getElem? (i := 62) rfl)) (hw _ (List.mem_of_getElem? (i := 63) rfl)) (hw _ (List.mem_of_getElem? (i := 60) rfl)) e0 (g := (mkF m 0 #[.val (.long j1), .second] [])) rfl (hb hby own_d11_0) (by decide) (by decide)
  obtain ⟨b15, g15⟩ : ∃ z, z = h0.size := ⟨_, rfl⟩
  rw [← g15] at A15 D15 st15
  refine own_by st15 ?_
  have gn_b15 : n0 ≤ b15 := Nat.le_trans Z0 (Nat.le_of_eq g15.symm)
  have sz_b15 : h0.size ≤ b15 := Nat.le_trans (Keep.refl h0 []).1 (Nat.le_of_eq g15.symm)
  have S15_POINTER := S0.ext E15
  have K15 := (Keep.refl h0 []).ext E15
  have Z15 := Nat.le_trans Z0 E15.1
  have F15_kind_b15 : Fld Z h15 b15 "com/example/minilingua/minilingua/lang/adpl/Value" "kind" "Lcom/example/minilingua/minilingua/lang/adpl/Value$Kind;" .null := D15 (Or.inr (hw _ (List.mem_of_getElem? (i := 72) rfl))) (ty := (.object "com/example/minilingua/minilingua/lang/adpl/Value$Kind")) (by decide)
  have F15_bits_b15 : Fld Z h15 b15 "com/example/minilingua/minilingua/lang/adpl/Value" "bits" "J" (.long (0 : Int64)) := D15 (Or.inr (hw _ (List.mem_of_getElem? (i := 74) rfl))) (ty := .long) (by decide)
  show own_Go p.tables e below K (T15.setTop (mkF m 3 #[.val (.long j1), .second] [(.ref b15)]))
  refine own_by (fun t k => XS.dup X15.here hx rfl (hb hby own_d11_3) rfl rfl k) ?_
  show own_Go p.tables e below K (T15.setTop (mkF m 4 #[.val (.long j1), .second] [(.ref b15), (.ref b15)]))
  obtain ⟨T16, X16, e16, st16⟩ := getS2 X15 hx hZ hown (host := "") (Or.inl (hw _ (List.mem_of_getElem? (i := 64) rfl))) Via.refl e15 S15_POINTER (g := (mkF m 4 #[.val (.long j1), .second] [(.ref b15), (.ref b15)])) rfl (hb hby own_d11_4)
  refine own_by st16 ?_
  show own_Go p.tables e below K (T16.setTop (mkF m 7 #[.val (.long j1), .second] [(.ref kp), (.ref b15), (.ref b15)]))
  refine own_by (fun t k => XS.lloadN X16.here hx rfl (hb hby own_d11_7) rfl k) ?_
  show own_Go p.tables e below K (T16.setTop (mkF m 8 #[.val (.long j1), .second] [(.long j1), (.ref kp), (.ref b15), (.ref b15)]))
  obtain ⟨_, _, ⟨T17, L17, k17, n17⟩, -, X17, ⟨Lc17, hQ17, l17, y17, z17⟩, st17⟩ := X16.specialBack hx (y := (⟨"com/example/minilingua/minilingua/lang/adpl/Value", "<init>", "(Lcom/example/minilingua/minilingua/lang/adpl/Value$Kind;J)V"⟩ : MethodName)) rfl hown (mvT hZ (hw _ (List.mem_of_getElem? (i := 67) rfl))) (mvT hZ (hw _ (List.mem_of_getElem? (i := 68) rfl))) (mvT hZ (hw _ (List.mem_of_getElem? (i := 69) rfl))) (by decide) (backOf (W := 1) (own_rmVI l Z a0 hw [] b15 kp j1 h15 n0 Z15 A15 F15_kind_b15 F15_bits_b15 gn_b15) hZ (hw _ (List.mem_of_getElem? (i := 69) rfl)) (hw _ (List.mem_of_getElem? (i := 60) rfl)) (by decide) (by decide)) (g := (mkF m 8 #[.val (.long j1), .second] [(.long j1), (.ref kp), (.ref b15), (.ref b15)])) rfl (by rw [hml]; rfl) (Steps.refl _) (a := b15) (argsL := [(.ref kp), (.long j1)]) (rest := [(.ref b15)]) (lenOf own_pd0 rfl) rfl (by show 2 * 0 + _ ≤ _; exact Nat.le_of_eq rfl) (hb hby own_d11_8) (fun _ _ => ⟨rfl, e16, (by decide : 1 + 0 ≤ _), (by decide : 2 + 0 ≤ _)⟩)
  dsimp only [Pt.U, Pt.locs, Pt.cells, Pt.slots] at X17 l17 y17 z17 st17 hQ17
  subst l17 y17 z17
  obtain ⟨rfl, N17q, Kp17⟩ := hQ17
  have N17 := Fr.app N0 N17q
  refine own_by (fun t k => st17.trans k) ?_
  have Ex17_b15 := A15.keep Kp17
  have K17 := K15.trans Kp17 (allS (Or.inr sz_b15) (all0))
  have Z17 := Nat.le_trans Z15 Kp17.1
  show own_Go p.tables e below K (T17.setTop (mkF m 11 #[.val (.long j1), .second] [(.ref b15)]))
  exact own_retA X17 hx hret rfl rfl rfl (hb hby own_d11_11) (hK (some (.ref b15)) X17 (fun h => by rw [hret] at h; cases h) (⟨_, rfl, N17, K17⟩) (by decide) (by decide))
theorem own_pd1 : parseMethodDescriptor "(J)Lcom/example/minilingua/minilingua/lang/adpl/Value;" = some ⟨[.long], some (.object "com/example/minilingua/minilingua/lang/adpl/Value")⟩ := by decide +kernel
theorem own_d10_0 : decode prog_31_method_8_code 0 = .ok (.aload_n 0, 1) := by decide +kernel
theorem own_d10_1 : decode prog_31_method_8_code 1 = .ok (.lload_n 1, 1) := by decide +kernel
theorem own_d10_2 : decode prog_31_method_8_code 2 = .ok (.invokestatic 24, 3) := by decide +kernel
theorem own_d10_5 : decode prog_31_method_8_code 5 = .ok (.putfield 20, 3) := by decide +kernel
theorem own_d10_8 : decode prog_31_method_8_code 8 = .ok (.return_, 1) := by decide +kernel
theorem own_efcellW (m : MethodId) (a1 : Addr) (j1 : Int64) : entryFrame m #[(.ref a1), (.long j1)] 3 = mkF m 0 #[.val (.ref a1), .val (.long j1), .second] [] := by first | (simp [entryFrame, mkF, argsToLocals, Value.category]; done) | rfl
def own_QcellW (Z : State) (a1 : Addr) (j1 : Int64) (kp : Addr) (as : Int32) (lo : Int32) (sl : Int32) (ce : Value) (h0 : Heap) (n0 : Nat) (v : Option Value) (h : Heap) (L : List Loc) : Prop := v = none ∧ Fr n0 L ∧ Keep h0 h [a1] ∧ ∃ r : Addr, own_B Z h a1 as lo sl (.ref r)
set_option maxRecDepth 65536 in
set_option maxHeartbeats 40000000 in
theorem own_rmcellW (l : Launch) (Z : State) (a0 : Array Value) (hw : ∀ d ∈ tables_1, d.before a0 Z = true) (ws : List Jvm.Cond) (a1 : Addr) (j1 : Int64) (kp : Addr) (as : Int32) (lo : Int32) (sl : Int32) (ce : Value) (h0 : Heap) (n0 : Nat) (Z0 : n0 ≤ h0.size) (B0 : own_B Z h0 a1 as lo sl ce) (ga : n0 ≤ a1) (S0 : Sta Z h0 "com/example/minilingua/minilingua/lang/adpl/Value$Kind" "POINTER" "Lcom/example/minilingua/minilingua/lang/adpl/Value$Kind;" (.ref kp)) :
    MetFree l (⟨"com/example/minilingua/minilingua/lang/adpl/Binding", "placeInCell", "(J)V"⟩ : MethodName) (head1 (Jvm.Cond.code (⟨"com/example/minilingua/minilingua/lang/adpl/Binding", "placeInCell", "(J)V"⟩ : MethodName) prog_31_method_8_code 3 none :: ws) ({ frames := 3, cells := 1, slots := 2, locals := 90 } : Room)) (fun a U => a = #[(.ref a1), (.long j1)] ∧ Z.Warmed39 U.vm ∧ U.heap = h0) (fun _ _ _ _ _ => True) (fun _ U o U' => ∃ v L, o = .returned v ∧ own_QcellW Z a1 j1 kp as lo sl ce h0 n0 v U'.heap L ∧ FrameEnd U o U' L ({ frames := 3, cells := 1, slots := 2, locals := 90 } : Room).cells ({ frames := 3, cells := 1, slots := 2, locals := 90 } : Room).slots) := by
  refine own_met (Q := own_QcellW Z a1 j1 kp as lo sl ce h0 n0) (plainFor_of_name own_pn1) ?_
  intro p e s m below meth c s₁ K hx hby hml hown hnm hret hZ X0 e0 hK
  have hown : s.vm.findClass "com/example/minilingua/minilingua/lang/adpl/Binding" = some m.cls := hown
  have N0 := Fr.nil n0
  refine own_by (fun t k => castTop (own_efcellW m a1 j1) k) ?_
  show own_Go p.tables e below K (s₁.setTop (mkF m 0 #[.val (.ref a1), .val (.long j1), .second] []))
  refine own_by (fun t k => XS.aloadN X0.here hx rfl (hb hby own_d10_0) rfl rfl k) ?_
  show own_Go p.tables e below K (s₁.setTop (mkF m 1 #[.val (.ref a1), .val (.long j1), .second] [(.ref a1)]))
  refine own_by (fun t k => XS.lloadN X0.here hx rfl (hb hby own_d10_1) rfl k) ?_
  show own_Go p.tables e below K (s₁.setTop (mkF m 2 #[.val (.ref a1), .val (.long j1), .second] [(.long j1), (.ref a1)]))
  obtain ⟨_, _, ⟨T18, L18, k18, n18⟩, -, X18, ⟨Lc18, hQ18, l18, y18, z18⟩, st18⟩ := Jvm.LawKit.callS X0 hx (y := (⟨"com/example/minilingua/minilingua/lang/adpl/Value", "pointer", "(J)Lcom/example/minilingua/minilingua/lang/adpl/Value;"⟩ : MethodName)) hown (mvT hZ (hw _ (List.mem_of_getElem? (i := 58) rfl))) (mvT hZ (hw _ (List.mem_of_getElem? (i := 59) rfl))) (mvT hZ (hw _ (List.mem_of_getElem? (i := 60) rfl))) (mvT hZ (hw _ (List.mem_of_getElem? (i := 61) rfl))) (by decide) (backOf (W := 1) (own_rmptr l Z a0 hw [] j1 kp h0 n0 Z0 S0) hZ (hw _ (List.mem_of_getElem? (i := 61) rfl)) (hw _ (List.mem_of_getElem? (i := 60) rfl)) (by decide) (by decide)) (g := (mkF m 2 #[.val (.ref a1), .val (.long j1), .second] [(.long j1), (.ref a1)])) rfl (by rw [hml]; rfl) (argsL := [(.long j1)]) (rest := [(.ref a1)]) (lenOf own_pd1 rfl) rfl (by show 2 * 0 + _ ≤ _; exact Nat.le_of_eq rfl) (hb hby own_d10_2) (fun _ _ => ⟨rfl, e0, (by decide : 0 + 1 ≤ _), (by decide : 0 + 2 ≤ _)⟩)
  dsimp only [Pt.U, Pt.locs, Pt.cells, Pt.slots] at X18 l18 y18 z18 st18 hQ18
  subst l18 y18 z18
  obtain ⟨r18, rfl, N18q, Kp18⟩ := hQ18
  have N18 := Fr.app N0 N18q
  refine own_by st18 ?_
  have F18_assigned_a1 := B0.2.1.keep Kp18 nin0
  have F18_local_a1 := B0.2.2.1.keep Kp18 nin0
  have F18_slot_a1 := B0.2.2.2.1.keep Kp18 nin0
  have F18_cell_a1 := B0.2.2.2.2.1.keep Kp18 nin0
  have Ex18_a1 := B0.1.keep Kp18
  have K18 := (Keep.refl h0 [a1]).trans Kp18 (all0)
  have Z18 := Nat.le_trans Z0 Kp18.1
  show own_Go p.tables e below K (T18.setTop (mkF m 5 #[.val (.ref a1), .val (.long j1), .second] [(.ref r18), (.ref a1)]))
  obtain ⟨T19, h19, X19, e19, W19, st19⟩ := putF X18 hx hZ hown (host := "") (Or.inl (hw _ (List.mem_of_getElem? (i := 25) rfl))) Via.refl rfl F18_cell_a1 Ex18_a1 (Or.inl (hw _ (List.mem_of_getElem? (i := 26) rfl))) (hw _ (List.mem_of_getElem? (i := 1) rfl)) (ty := (.object "com/example/minilingua/minilingua/lang/adpl/Value")) (by decide) rfl rfl (g := (mkF m 5 #[.val (.ref a1), .val (.long j1), .second] [(.ref r18), (.ref a1)])) rfl rfl (hb hby own_d10_5)
  refine own_by st19 ?_
  have F19_assigned_a1 := F18_assigned_a1.other W19 (Or.inr (slot_ne (Or.inl (hw _ (List.mem_of_getElem? (i := 24) rfl))) (Or.inl (hw _ (List.mem_of_getElem? (i := 26) rfl))) (by decide) (t := .boolean) (t' := (.object "com/example/minilingua/minilingua/lang/adpl/Value")) (by decide) (by decide)))
  have F19_local_a1 := F18_local_a1.other W19 (Or.inr (slot_ne (Or.inl (hw _ (List.mem_of_getElem? (i := 17) rfl))) (Or.inl (hw _ (List.mem_of_getElem? (i := 26) rfl))) (by decide) (t := .boolean) (t' := (.object "com/example/minilingua/minilingua/lang/adpl/Value")) (by decide) (by decide)))
  have F19_slot_a1 := F18_slot_a1.other W19 (Or.inr (slot_ne (Or.inl (hw _ (List.mem_of_getElem? (i := 15) rfl))) (Or.inl (hw _ (List.mem_of_getElem? (i := 26) rfl))) (by decide) (t := .int) (t' := (.object "com/example/minilingua/minilingua/lang/adpl/Value")) (by decide) (by decide)))
  have F19_cell_a1 := F18_cell_a1.same W19
  have Ex19_a1 := Ex18_a1.wr W19
  have K19 := K18.wr W19 (Or.inl (by simp))
  have Z19 := Nat.le_trans Z18 (Keep.of_wr W19).1
  have N19 := Fr.snoc X19 N18 ga
  show own_Go p.tables e below K (T19.setTop (mkF m 8 #[.val (.ref a1), .val (.long j1), .second] []))
  exact own_retV X19 hx hret (hb hby own_d10_8) (hK none X19 (fun _ => rfl) (by rw [e19]; exact ⟨rfl, N19, K19, _, ⟨Ex19_a1, F19_assigned_a1, F19_local_a1, F19_slot_a1, F19_cell_a1, rfl⟩⟩) (by decide) (by decide))
theorem own_d5_0 : decode prog_31_method_7_code 0 = .ok (.aload_n 0, 1) := by decide +kernel
theorem own_d5_1 : decode prog_31_method_7_code 1 = .ok (.getfield 20, 3) := by decide +kernel
theorem own_d5_4 : decode prog_31_method_7_code 4 = .ok (.areturn, 1) := by decide +kernel
theorem own_efcell (m : MethodId) (a1 : Addr) : entryFrame m #[(.ref a1)] 1 = mkF m 0 #[.val (.ref a1)] [] := by first | (simp [entryFrame, mkF, argsToLocals, Value.category]; done) | rfl
def own_Qcell (Z : State) (a1 : Addr) (as : Int32) (lo : Int32) (sl : Int32) (ce : Value) (h0 : Heap) (n0 : Nat) (v : Option Value) (h : Heap) (L : List Loc) : Prop := v = some ce ∧ Fr n0 L ∧ h = h0
set_option maxRecDepth 65536 in
set_option maxHeartbeats 40000000 in
theorem own_rmcell (l : Launch) (Z : State) (a0 : Array Value) (hw : ∀ d ∈ tables_1, d.before a0 Z = true) (ws : List Jvm.Cond) (a1 : Addr) (as : Int32) (lo : Int32) (sl : Int32) (ce : Value) (h0 : Heap) (n0 : Nat) (Z0 : n0 ≤ h0.size) (B0 : own_B Z h0 a1 as lo sl ce) :
    MetFree l (⟨"com/example/minilingua/minilingua/lang/adpl/Binding", "cell", "()Lcom/example/minilingua/minilingua/lang/adpl/Value;"⟩ : MethodName) (head1 (Jvm.Cond.code (⟨"com/example/minilingua/minilingua/lang/adpl/Binding", "cell", "()Lcom/example/minilingua/minilingua/lang/adpl/Value;"⟩ : MethodName) prog_31_method_7_code 1 (some (.object "com/example/minilingua/minilingua/lang/adpl/Value")) :: ws) ({ frames := 0, cells := 0, slots := 0, locals := 0 } : Room)) (fun a U => a = #[(.ref a1)] ∧ Z.Warmed39 U.vm ∧ U.heap = h0) (fun _ _ _ _ _ => True) (fun _ U o U' => ∃ v L, o = .returned v ∧ own_Qcell Z a1 as lo sl ce h0 n0 v U'.heap L ∧ FrameEnd U o U' L ({ frames := 0, cells := 0, slots := 0, locals := 0 } : Room).cells ({ frames := 0, cells := 0, slots := 0, locals := 0 } : Room).slots) := by
  refine own_met (Q := own_Qcell Z a1 as lo sl ce h0 n0) (plainFor_of_name own_pn1) ?_
  intro p e s m below meth c s₁ K hx hby hml hown hnm hret hZ X0 e0 hK
  have hown : s.vm.findClass "com/example/minilingua/minilingua/lang/adpl/Binding" = some m.cls := hown
  have N0 := Fr.nil n0
  refine own_by (fun t k => castTop (own_efcell m a1) k) ?_
  show own_Go p.tables e below K (s₁.setTop (mkF m 0 #[.val (.ref a1)] []))
  refine own_by (fun t k => XS.aloadN X0.here hx rfl (hb hby own_d5_0) rfl rfl k) ?_
  show own_Go p.tables e below K (s₁.setTop (mkF m 1 #[.val (.ref a1)] [(.ref a1)]))
  obtain ⟨T20, X20, e20, st20⟩ := getF X0 hx hZ hown (host := "") (Or.inl (hw _ (List.mem_of_getElem? (i := 25) rfl))) Via.refl e0 B0.2.2.2.2.1 (g := (mkF m 1 #[.val (.ref a1)] [(.ref a1)])) rfl rfl (hb hby own_d5_1)
  refine own_by st20 ?_
  show own_Go p.tables e below K (T20.setTop (mkF m 4 #[.val (.ref a1)] [ce]))
  exact own_retA X20 hx hret rfl (own_nar B0.2.2.2.2.2) B0.2.2.2.2.2 (hb hby own_d5_4) (hK (some ce) X20 (fun h => by rw [hret] at h; cases h) (⟨rfl, N0, e20⟩) (by decide) (by decide))
theorem own_d6_0 : decode prog_31_method_2_code 0 = .ok (.aload_n 0, 1) := by decide +kernel
theorem own_d6_1 : decode prog_31_method_2_code 1 = .ok (.getfield 7, 3) := by decide +kernel
theorem own_d6_4 : decode prog_31_method_2_code 4 = .ok (.ireturn, 1) := by decide +kernel
theorem own_efasg (m : MethodId) (a1 : Addr) : entryFrame m #[(.ref a1)] 1 = mkF m 0 #[.val (.ref a1)] [] := by first | (simp [entryFrame, mkF, argsToLocals, Value.category]; done) | rfl
def own_Qasg (Z : State) (a1 : Addr) (as : Int32) (lo : Int32) (sl : Int32) (ce : Value) (h0 : Heap) (n0 : Nat) (v : Option Value) (h : Heap) (L : List Loc) : Prop := v = some (.int (nar .boolean as)) ∧ Fr n0 L ∧ h = h0
set_option maxRecDepth 65536 in
set_option maxHeartbeats 40000000 in
theorem own_rmasg (l : Launch) (Z : State) (a0 : Array Value) (hw : ∀ d ∈ tables_1, d.before a0 Z = true) (ws : List Jvm.Cond) (a1 : Addr) (as : Int32) (lo : Int32) (sl : Int32) (ce : Value) (h0 : Heap) (n0 : Nat) (Z0 : n0 ≤ h0.size) (B0 : own_B Z h0 a1 as lo sl ce) :
    MetFree l (⟨"com/example/minilingua/minilingua/lang/adpl/Binding", "assigned", "()Z"⟩ : MethodName) (head1 (Jvm.Cond.code (⟨"com/example/minilingua/minilingua/lang/adpl/Binding", "assigned", "()Z"⟩ : MethodName) prog_31_method_2_code 1 (some .boolean) :: ws) ({ frames := 0, cells := 0, slots := 0, locals := 0 } : Room)) (fun a U => a = #[(.ref a1)] ∧ Z.Warmed39 U.vm ∧ U.heap = h0) (fun _ _ _ _ _ => True) (fun _ U o U' => ∃ v L, o = .returned v ∧ own_Qasg Z a1 as lo sl ce h0 n0 v U'.heap L ∧ FrameEnd U o U' L ({ frames := 0, cells := 0, slots := 0, locals := 0 } : Room).cells ({ frames := 0, cells := 0, slots := 0, locals := 0 } : Room).slots) := by
  refine own_met (Q := own_Qasg Z a1 as lo sl ce h0 n0) (plainFor_of_name own_pn1) ?_
  intro p e s m below meth c s₁ K hx hby hml hown hnm hret hZ X0 e0 hK
  have hown : s.vm.findClass "com/example/minilingua/minilingua/lang/adpl/Binding" = some m.cls := hown
  have N0 := Fr.nil n0
  refine own_by (fun t k => castTop (own_efasg m a1) k) ?_
  show own_Go p.tables e below K (s₁.setTop (mkF m 0 #[.val (.ref a1)] []))
  refine own_by (fun t k => XS.aloadN X0.here hx rfl (hb hby own_d6_0) rfl rfl k) ?_
  show own_Go p.tables e below K (s₁.setTop (mkF m 1 #[.val (.ref a1)] [(.ref a1)]))
  obtain ⟨T21, X21, e21, st21⟩ := getF X0 hx hZ hown (host := "") (Or.inl (hw _ (List.mem_of_getElem? (i := 23) rfl))) Via.refl e0 B0.2.1 (g := (mkF m 1 #[.val (.ref a1)] [(.ref a1)])) rfl rfl (hb hby own_d6_1)
  refine own_by st21 ?_
  show own_Go p.tables e below K (T21.setTop (mkF m 4 #[.val (.ref a1)] [(.int as)]))
  exact own_retZ X21 hx (t := .boolean) hret (by simp) (hb hby own_d6_4) (hK (some (.int (nar .boolean as))) X21 (fun h => by rw [hret] at h; cases h) (⟨rfl, N0, e21⟩) (by decide) (by decide))
theorem own_d7_0 : decode prog_31_method_4_code 0 = .ok (.aload_n 0, 1) := by decide +kernel
theorem own_d7_1 : decode prog_31_method_4_code 1 = .ok (.getfield 13, 3) := by decide +kernel
theorem own_d7_4 : decode prog_31_method_4_code 4 = .ok (.ireturn, 1) := by decide +kernel
theorem own_efloc (m : MethodId) (a1 : Addr) : entryFrame m #[(.ref a1)] 1 = mkF m 0 #[.val (.ref a1)] [] := by first | (simp [entryFrame, mkF, argsToLocals, Value.category]; done) | rfl
def own_Qloc (Z : State) (a1 : Addr) (as : Int32) (lo : Int32) (sl : Int32) (ce : Value) (h0 : Heap) (n0 : Nat) (v : Option Value) (h : Heap) (L : List Loc) : Prop := v = some (.int (nar .boolean lo)) ∧ Fr n0 L ∧ h = h0
set_option maxRecDepth 65536 in
set_option maxHeartbeats 40000000 in
theorem own_rmloc (l : Launch) (Z : State) (a0 : Array Value) (hw : ∀ d ∈ tables_1, d.before a0 Z = true) (ws : List Jvm.Cond) (a1 : Addr) (as : Int32) (lo : Int32) (sl : Int32) (ce : Value) (h0 : Heap) (n0 : Nat) (Z0 : n0 ≤ h0.size) (B0 : own_B Z h0 a1 as lo sl ce) :
    MetFree l (⟨"com/example/minilingua/minilingua/lang/adpl/Binding", "isLocal", "()Z"⟩ : MethodName) (head1 (Jvm.Cond.code (⟨"com/example/minilingua/minilingua/lang/adpl/Binding", "isLocal", "()Z"⟩ : MethodName) prog_31_method_4_code 1 (some .boolean) :: ws) ({ frames := 0, cells := 0, slots := 0, locals := 0 } : Room)) (fun a U => a = #[(.ref a1)] ∧ Z.Warmed39 U.vm ∧ U.heap = h0) (fun _ _ _ _ _ => True) (fun _ U o U' => ∃ v L, o = .returned v ∧ own_Qloc Z a1 as lo sl ce h0 n0 v U'.heap L ∧ FrameEnd U o U' L ({ frames := 0, cells := 0, slots := 0, locals := 0 } : Room).cells ({ frames := 0, cells := 0, slots := 0, locals := 0 } : Room).slots) := by
  refine own_met (Q := own_Qloc Z a1 as lo sl ce h0 n0) (plainFor_of_name own_pn1) ?_
  intro p e s m below meth c s₁ K hx hby hml hown hnm hret hZ X0 e0 hK
  have hown : s.vm.findClass "com/example/minilingua/minilingua/lang/adpl/Binding" = some m.cls := hown
  have N0 := Fr.nil n0
  refine own_by (fun t k => castTop (own_efloc m a1) k) ?_
  show own_Go p.tables e below K (s₁.setTop (mkF m 0 #[.val (.ref a1)] []))
  refine own_by (fun t k => XS.aloadN X0.here hx rfl (hb hby own_d7_0) rfl rfl k) ?_
  show own_Go p.tables e below K (s₁.setTop (mkF m 1 #[.val (.ref a1)] [(.ref a1)]))
  obtain ⟨T22, X22, e22, st22⟩ := getF X0 hx hZ hown (host := "") (Or.inl (hw _ (List.mem_of_getElem? (i := 16) rfl))) Via.refl e0 B0.2.2.1 (g := (mkF m 1 #[.val (.ref a1)] [(.ref a1)])) rfl rfl (hb hby own_d7_1)
  refine own_by st22 ?_
  show own_Go p.tables e below K (T22.setTop (mkF m 4 #[.val (.ref a1)] [(.int lo)]))
  exact own_retZ X22 hx (t := .boolean) hret (by simp) (hb hby own_d7_4) (hK (some (.int (nar .boolean lo))) X22 (fun h => by rw [hret] at h; cases h) (⟨rfl, N0, e22⟩) (by decide) (by decide))
theorem own_d8_0 : decode prog_31_method_5_code 0 = .ok (.aload_n 0, 1) := by decide +kernel
theorem own_d8_1 : decode prog_31_method_5_code 1 = .ok (.getfield 16, 3) := by decide +kernel
theorem own_d8_4 : decode prog_31_method_5_code 4 = .ok (.ireturn, 1) := by decide +kernel
theorem own_efslot (m : MethodId) (a1 : Addr) : entryFrame m #[(.ref a1)] 1 = mkF m 0 #[.val (.ref a1)] [] := by first | (simp [entryFrame, mkF, argsToLocals, Value.category]; done) | rfl
def own_Qslot (Z : State) (a1 : Addr) (as : Int32) (lo : Int32) (sl : Int32) (ce : Value) (h0 : Heap) (n0 : Nat) (v : Option Value) (h : Heap) (L : List Loc) : Prop := v = some (.int sl) ∧ Fr n0 L ∧ h = h0
set_option maxRecDepth 65536 in
set_option maxHeartbeats 40000000 in
theorem own_rmslot (l : Launch) (Z : State) (a0 : Array Value) (hw : ∀ d ∈ tables_1, d.before a0 Z = true) (ws : List Jvm.Cond) (a1 : Addr) (as : Int32) (lo : Int32) (sl : Int32) (ce : Value) (h0 : Heap) (n0 : Nat) (Z0 : n0 ≤ h0.size) (B0 : own_B Z h0 a1 as lo sl ce) :
    MetFree l (⟨"com/example/minilingua/minilingua/lang/adpl/Binding", "slot", "()I"⟩ : MethodName) (head1 (Jvm.Cond.code (⟨"com/example/minilingua/minilingua/lang/adpl/Binding", "slot", "()I"⟩ : MethodName) prog_31_method_5_code 1 (some .int) :: ws) ({ frames := 0, cells := 0, slots := 0, locals := 0 } : Room)) (fun a U => a = #[(.ref a1)] ∧ Z.Warmed39 U.vm ∧ U.heap = h0) (fun _ _ _ _ _ => True) (fun _ U o U' => ∃ v L, o = .returned v ∧ own_Qslot Z a1 as lo sl ce h0 n0 v U'.heap L ∧ FrameEnd U o U' L ({ frames := 0, cells := 0, slots := 0, locals := 0 } : Room).cells ({ frames := 0, cells := 0, slots := 0, locals := 0 } : Room).slots) := by
  refine own_met (Q := own_Qslot Z a1 as lo sl ce h0 n0) (plainFor_of_name own_pn1) ?_
  intro p e s m below meth c s₁ K hx hby hml hown hnm hret hZ X0 e0 hK
  have hown : s.vm.findClass "com/example/minilingua/minilingua/lang/adpl/Binding" = some m.cls := hown
  have N0 := Fr.nil n0
  refine own_by (fun t k => castTop (own_efslot m a1) k) ?_
  show own_Go p.tables e below K (s₁.setTop (mkF m 0 #[.val (.ref a1)] []))
  refine own_by (fun t k => XS.aloadN X0.here hx rfl (hb hby own_d8_0) rfl rfl k) ?_
  show own_Go p.tables e below K (s₁.setTop (mkF m 1 #[.val (.ref a1)] [(.ref a1)]))
  obtain ⟨T23, X23, e23, st23⟩ := getF X0 hx hZ hown (host := "") (Or.inl (hw _ (List.mem_of_getElem? (i := 14) rfl))) Via.refl e0 B0.2.2.2.1 (g := (mkF m 1 #[.val (.ref a1)] [(.ref a1)])) rfl rfl (hb hby own_d8_1)
  refine own_by st23 ?_
  show own_Go p.tables e below K (T23.setTop (mkF m 4 #[.val (.ref a1)] [(.int sl)]))
  exact own_retI X23 hx hret (hb hby own_d8_4) (hK (some (.int sl)) X23 (fun h => by rw [hret] at h; cases h) (⟨rfl, N0, e23⟩) (by decide) (by decide))
theorem own_pd2 : parseMethodDescriptor "(Lcom/example/minilingua/minilingua/lang/adpl/Binding;)V" = some ⟨[(.object "com/example/minilingua/minilingua/lang/adpl/Binding")], none⟩ := by decide +kernel
theorem own_pd3 : parseMethodDescriptor "()Lcom/example/minilingua/minilingua/lang/adpl/Value;" = some ⟨[], some (.object "com/example/minilingua/minilingua/lang/adpl/Value")⟩ := by decide +kernel
theorem own_pd4 : parseMethodDescriptor "()Z" = some ⟨[], some .boolean⟩ := by decide +kernel
theorem own_pd5 : parseMethodDescriptor "()I" = some ⟨[], some .int⟩ := by decide +kernel
theorem own_pd6 : parseMethodDescriptor "(IZ)V" = some ⟨[.int, .boolean], none⟩ := by decide +kernel
theorem own_pd7 : parseMethodDescriptor "(J)V" = some ⟨[.long], none⟩ := by decide +kernel
theorem own_pd8 : parseMethodDescriptor "()V" = some ⟨[], none⟩ := by decide +kernel
theorem own_pn0 : plainName "com/example/minilingua/minilingua/lang/adpl/BindingPlaceAsPinLaw" = true := by first | (simp [plainName, overriddenIn]; done) | decide +kernel
theorem own_ef0 (m : MethodId) (q1 : Int32) (q2 : Int32) (q3 : Int32) (j1 : Int64) (j2 : Int64) : entryFrame m #[(.int q1), (.int q2), (.int q3), (.long j1), (.long j2)] maxLocals = mkF m 0 #[.val (.int q1), .val (.int q2), .val (.int q3), .val (.long j1), .second, .val (.long j2), .second, .unset, .unset, .unset, .unset, .unset, .unset, .unset, .unset, .unset, .unset] [] := by first | (simp [entryFrame, mkF, argsToLocals, Value.category, maxLocals]; done) | rfl
def own_Q0 (Z : State) (q1 : Int32) (q2 : Int32) (q3 : Int32) (j1 : Int64) (j2 : Int64) (kp : Addr) (h0 : Heap) (n0 : Nat) (v : Option Value) (h : Heap) (L : List Loc) : Prop := v = some (.int (1 : Int32)) ∧ Fr n0 L
set_option maxRecDepth 65536 in
set_option maxHeartbeats 40000000 in
theorem own_rm0 (l : Launch) (Z : State) (a0 : Array Value) (hw : ∀ d ∈ tables_1, d.before a0 Z = true) (ws : List Jvm.Cond) (q1 : Int32) (q2 : Int32) (q3 : Int32) (j1 : Int64) (j2 : Int64) (kp : Addr) (h0 : Heap) (n0 : Nat) (Z0 : n0 ≤ h0.size) (O0 : Old Z n0 h0) (S0 : Sta Z Z.heap "com/example/minilingua/minilingua/lang/adpl/Value$Kind" "POINTER" "Lcom/example/minilingua/minilingua/lang/adpl/Value$Kind;" (.ref kp)) :
    MetFree l x (head1 (Jvm.Cond.code x code maxLocals ret :: ws) room_1) (fun a U => a = #[(.int q1), (.int q2), (.int q3), (.long j1), (.long j2)] ∧ Z.Warmed39 U.vm ∧ U.heap = h0) (fun _ _ _ _ _ => True) (fun _ U o U' => ∃ v L, o = .returned v ∧ own_Q0 Z q1 q2 q3 j1 j2 kp h0 n0 v U'.heap L ∧ FrameEnd U o U' L 4 12) := by
  refine own_met (Q := own_Q0 Z q1 q2 q3 j1 j2 kp h0 n0) (plainFor_of_name own_pn0) ?_
  intro p e s m below meth c s₁ K hx hby hml hown hnm hret hZ X0 e0 hK
  have hown : s.vm.findClass "com/example/minilingua/minilingua/lang/adpl/BindingPlaceAsPinLaw" = some m.cls := hown
  have N0 := Fr.nil n0
  refine own_by (fun t k => castTop (own_ef0 m q1 q2 q3 j1 j2) k) ?_
  have J81 : ∀ b7 b8 b9 b10 b11 b12 : Int32, (b7 = 0 ∨ b7 = 1) → (b8 = 0 ∨ b8 = 1) → (b9 = 0 ∨ b9 = 1) → (b10 = 0 ∨ b10 = 1) → (b11 = 0 ∨ b11 = 1) → (b12 = 0 ∨ b12 = 1) → own_Go p.tables e below K (s₁.setTop (mkF m 81 #[.val (.int q1), .val (.int q2), .val (.int q3), .val (.long j1), .second, .val (.long j2), .second, .val (.int b7), .val (.int b8), .val (.int b9), .val (.int b10), .val (.int b11), .val (.int b12), .unset, .unset, .unset, .unset] [])) := by
    intro b7 b8 b9 b10 b11 b12 hb7 hb8 hb9 hb10 hb11 hb12
    have J166 : ∀ (T' : State) (L' : List Loc) (o : Addr) (o' : Addr) (ce : Value) (cf : Value), Stand p l e room_1 s m #[(.int q1), (.int q2), (.int q3), (.long j1), (.long j2)] below meth c T' L' 4 12 → Fr n0 L' → n0 ≤ T'.heap.size → Old Z n0 T'.heap → n0 ≤ o → n0 ≤ o' → o ≠ o' → own_B Z T'.heap o b7 b8 q2 ce → own_B Z T'.heap o' b10 b11 q3 cf → own_ce b9 ce → own_Go p.tables e below K (T'.setTop (mkF m 166 #[.val (.int q1), .val (.int q2), .val (.int q3), .val (.long j1), .second, .val (.long j2), .second, .val (.int b7), .val (.int b8), .val (.int b9), .val (.int b10), .val (.int b11), .val (.int b12), .val (.ref o), .val (.ref o'), .unset, .unset] [])) := by
      intro T' L' o o' ce cf X' N' Z' O' go go' hne B B' hce
      rcases hce with ⟨rfl, rfl⟩ | ⟨rfl, vv, rfl⟩
      · show own_Go p.tables e below K (T'.setTop (mkF m 166 #[.val (.int q1), .val (.int q2), .val (.int q3), .val (.long j1), .second, .val (.long j2), .second, .val (.int b7), .val (.int b8), .val (.int (0 : Int32)), .val (.int b10), .val (.int b11), .val (.int b12), .val (.ref o), .val (.ref o'), .unset, .unset] []))
        refine own_by (fun t k => XS.aload X'.here hx rfl (hb hby at_166) rfl rfl k) ?_
        show own_Go p.tables e below K (T'.setTop (mkF m 168 #[.val (.int q1), .val (.int q2), .val (.int q3), .val (.long j1), .second, .val (.long j2), .second, .val (.int b7), .val (.int b8), .val (.int (0 : Int32)), .val (.int b10), .val (.int b11), .val (.int b12), .val (.ref o), .val (.ref o'), .unset, .unset] [(.ref o')]))
        refine own_by (fun t k => XS.aload X'.here hx rfl (hb hby at_168) rfl rfl k) ?_
        show own_Go p.tables e below K (T'.setTop (mkF m 170 #[.val (.int q1), .val (.int q2), .val (.int q3), .val (.long j1), .second, .val (.long j2), .second, .val (.int b7), .val (.int b8), .val (.int (0 : Int32)), .val (.int b10), .val (.int b11), .val (.int b12), .val (.ref o), .val (.ref o'), .unset, .unset] [(.ref o), (.ref o')]))
        obtain ⟨cq24, kq24, q24a, q24b, q24c⟩ := isOf hZ rfl B'.1
        obtain ⟨_, _, ⟨T24, L24, k24, n24⟩, -, X24, ⟨Lc24, hQ24, l24, y24, z24⟩, st24⟩ := X'.virtualBack hx (y := (⟨"com/example/minilingua/minilingua/lang/adpl/Binding", "placeAs", "(Lcom/example/minilingua/minilingua/lang/adpl/Binding;)V"⟩ : MethodName)) (z := (⟨"com/example/minilingua/minilingua/lang/adpl/Binding", "placeAs", "(Lcom/example/minilingua/minilingua/lang/adpl/Binding;)V"⟩ : MethodName)) hown (mvT hZ (hw _ (List.mem_of_getElem? (i := 18) rfl))) (mvT hZ (hw _ (List.mem_of_getElem? (i := 19) rfl))) (notFace_of_selects (args := #[]) (mvT hZ (hw _ (List.mem_of_getElem? (i := 21) rfl)))) (mvT hZ (hw _ (List.mem_of_getElem? (i := 21) rfl))) (mvT hZ (hw _ (List.mem_of_getElem? (i := 20) rfl))) (by decide) (backOf (W := 0) (own_rmas l Z a0 hw [] o' o b7 b8 q2 .null b10 b11 q3 cf T'.heap n0 Z' B' go' B (Ne.symm hne)) hZ (hw _ (List.mem_of_getElem? (i := 22) rfl)) (hw _ (List.mem_of_getElem? (i := 2) rfl)) (by decide) (by decide)) q24a q24c (g := (mkF m 170 #[.val (.int q1), .val (.int q2), .val (.int q3), .val (.long j1), .second, .val (.long j2), .second, .val (.int b7), .val (.int b8), .val (.int (0 : Int32)), .val (.int b10), .val (.int b11), .val (.int b12), .val (.ref o), .val (.ref o'), .unset, .unset] [(.ref o), (.ref o')])) rfl (by rw [hml]; rfl) (Steps.refl _) (argsL := [(.ref o)]) (rest := []) (lenOf own_pd2 rfl) rfl (by show 2 * 0 + _ ≤ _; exact Nat.le_of_eq rfl) (hb hby at_170) (fun _ _ => ⟨rfl, rfl, (by decide : 4 + 0 ≤ _), (by decide : 12 + 0 ≤ _)⟩)
        dsimp only [Pt.U, Pt.locs, Pt.cells, Pt.slots] at X24 l24 y24 z24 st24 hQ24
        subst l24 y24 z24
        obtain ⟨rfl, N24q, Kp24, Bp24⟩ := hQ24
        have N24 := Fr.app N' N24q
        refine own_by (fun t k => st24.trans k) ?_
        have Bk24 := B.keep Kp24 (ninS hne nin0)
        have Z24 := Nat.le_trans Z' Kp24.1
        have O24 := O'.keep Kp24 (allS go' (all0))
        rw [own_nb hb7] at Bp24
        show own_Go p.tables e below K (T24.setTop (mkF m 173 #[.val (.int q1), .val (.int q2), .val (.int q3), .val (.long j1), .second, .val (.long j2), .second, .val (.int b7), .val (.int b8), .val (.int (0 : Int32)), .val (.int b10), .val (.int b11), .val (.int b12), .val (.ref o), .val (.ref o'), .unset, .unset] []))
        refine own_by (fun t k => XS.aload X24.here hx rfl (hb hby at_173) rfl rfl k) ?_
        show own_Go p.tables e below K (T24.setTop (mkF m 175 #[.val (.int q1), .val (.int q2), .val (.int q3), .val (.long j1), .second, .val (.long j2), .second, .val (.int b7), .val (.int b8), .val (.int (0 : Int32)), .val (.int b10), .val (.int b11), .val (.int b12), .val (.ref o), .val (.ref o'), .unset, .unset] [(.ref o)]))
        obtain ⟨cq25, kq25, q25a, q25b, q25c⟩ := isOf hZ rfl Bk24.1
        obtain ⟨_, _, ⟨T25, L25, k25, n25⟩, -, X25, ⟨Lc25, hQ25, l25, y25, z25⟩, st25⟩ := X24.virtualBack hx (y := (⟨"com/example/minilingua/minilingua/lang/adpl/Binding", "cell", "()Lcom/example/minilingua/minilingua/lang/adpl/Value;"⟩ : MethodName)) (z := (⟨"com/example/minilingua/minilingua/lang/adpl/Binding", "cell", "()Lcom/example/minilingua/minilingua/lang/adpl/Value;"⟩ : MethodName)) hown (mvT hZ (hw _ (List.mem_of_getElem? (i := 27) rfl))) (mvT hZ (hw _ (List.mem_of_getElem? (i := 28) rfl))) (notFace_of_selects (args := #[]) (mvT hZ (hw _ (List.mem_of_getElem? (i := 30) rfl)))) (mvT hZ (hw _ (List.mem_of_getElem? (i := 30) rfl))) (mvT hZ (hw _ (List.mem_of_getElem? (i := 29) rfl))) (by decide) (backOf (W := 0) (own_rmcell l Z a0 hw [] o b7 b8 q2 .null T24.heap n0 Z24 Bk24) hZ (hw _ (List.mem_of_getElem? (i := 31) rfl)) (hw _ (List.mem_of_getElem? (i := 2) rfl)) (by decide) (by decide)) q25a q25c (g := (mkF m 175 #[.val (.int q1), .val (.int q2), .val (.int q3), .val (.long j1), .second, .val (.long j2), .second, .val (.int b7), .val (.int b8), .val (.int (0 : Int32)), .val (.int b10), .val (.int b11), .val (.int b12), .val (.ref o), .val (.ref o'), .unset, .unset] [(.ref o)])) rfl (by rw [hml]; rfl) (Steps.refl _) (argsL := []) (rest := []) (lenOf own_pd3 rfl) rfl (by show 2 * 0 + _ ≤ _; exact Nat.le_of_eq rfl) (hb hby at_175) (fun _ _ => ⟨rfl, rfl, (by decide : 4 + 0 ≤ _), (by decide : 12 + 0 ≤ _)⟩)
        dsimp only [Pt.U, Pt.locs, Pt.cells, Pt.slots] at X25 l25 y25 z25 st25 hQ25
        subst l25 y25 z25
        obtain ⟨rfl, N25q, e25⟩ := hQ25
        have N25 := Fr.app N24 N25q
        refine own_by (fun t k => st25.trans k) ?_
        show own_Go p.tables e below K (T25.setTop (mkF m 178 #[.val (.int q1), .val (.int q2), .val (.int q3), .val (.long j1), .second, .val (.long j2), .second, .val (.int b7), .val (.int b8), .val (.int (0 : Int32)), .val (.int b10), .val (.int b11), .val (.int b12), .val (.ref o), .val (.ref o'), .unset, .unset] [.null]))
        refine own_by (fun t k => XS.astore X25.here hx rfl (hb hby at_178) rfl rfl (l' := #[.val (.int q1), .val (.int q2), .val (.int q3), .val (.long j1), .second, .val (.long j2), .second, .val (.int b7), .val (.int b8), .val (.int (0 : Int32)), .val (.int b10), .val (.int b11), .val (.int b12), .val (.ref o), .val (.ref o'), .val .null, .unset]) rfl k) ?_
        show own_Go p.tables e below K (T25.setTop (mkF m 180 #[.val (.int q1), .val (.int q2), .val (.int q3), .val (.long j1), .second, .val (.long j2), .second, .val (.int b7), .val (.int b8), .val (.int (0 : Int32)), .val (.int b10), .val (.int b11), .val (.int b12), .val (.ref o), .val (.ref o'), .val .null, .unset] []))
        refine own_by (fun t k => XS.aload X25.here hx rfl (hb hby at_180) rfl rfl k) ?_
        show own_Go p.tables e below K (T25.setTop (mkF m 182 #[.val (.int q1), .val (.int q2), .val (.int q3), .val (.long j1), .second, .val (.long j2), .second, .val (.int b7), .val (.int b8), .val (.int (0 : Int32)), .val (.int b10), .val (.int b11), .val (.int b12), .val (.ref o), .val (.ref o'), .val .null, .unset] [(.ref o')]))
        obtain ⟨cq26, kq26, q26a, q26b, q26c⟩ := isOf hZ e25 Bp24.1
        obtain ⟨_, _, ⟨T26, L26, k26, n26⟩, -, X26, ⟨Lc26, hQ26, l26, y26, z26⟩, st26⟩ := X25.virtualBack hx (y := (⟨"com/example/minilingua/minilingua/lang/adpl/Binding", "cell", "()Lcom/example/minilingua/minilingua/lang/adpl/Value;"⟩ : MethodName)) (z := (⟨"com/example/minilingua/minilingua/lang/adpl/Binding", "cell", "()Lcom/example/minilingua/minilingua/lang/adpl/Value;"⟩ : MethodName)) hown (mvT hZ (hw _ (List.mem_of_getElem? (i := 27) rfl))) (mvT hZ (hw _ (List.mem_of_getElem? (i := 28) rfl))) (notFace_of_selects (args := #[]) (mvT hZ (hw _ (List.mem_of_getElem? (i := 30) rfl)))) (mvT hZ (hw _ (List.mem_of_getElem? (i := 30) rfl))) (mvT hZ (hw _ (List.mem_of_getElem? (i := 29) rfl))) (by decide) (backOf (W := 0) (own_rmcell l Z a0 hw [] o' b7 0 q2 .null T24.heap n0 Z24 Bp24) hZ (hw _ (List.mem_of_getElem? (i := 31) rfl)) (hw _ (List.mem_of_getElem? (i := 2) rfl)) (by decide) (by decide)) q26a q26c (g := (mkF m 182 #[.val (.int q1), .val (.int q2), .val (.int q3), .val (.long j1), .second, .val (.long j2), .second, .val (.int b7), .val (.int b8), .val (.int (0 : Int32)), .val (.int b10), .val (.int b11), .val (.int b12), .val (.ref o), .val (.ref o'), .val .null, .unset] [(.ref o')])) rfl (by rw [hml]; rfl) (Steps.refl _) (argsL := []) (rest := []) (lenOf own_pd3 rfl) rfl (by show 2 * 0 + _ ≤ _; exact Nat.le_of_eq rfl) (hb hby at_182) (fun _ _ => ⟨rfl, e25, (by decide : 4 + 0 ≤ _), (by decide : 12 + 0 ≤ _)⟩)
        dsimp only [Pt.U, Pt.locs, Pt.cells, Pt.slots] at X26 l26 y26 z26 st26 hQ26
        subst l26 y26 z26
        obtain ⟨rfl, N26q, e26⟩ := hQ26
        have N26 := Fr.app N25 N26q
        refine own_by (fun t k => st26.trans k) ?_
        show own_Go p.tables e below K (T26.setTop (mkF m 185 #[.val (.int q1), .val (.int q2), .val (.int q3), .val (.long j1), .second, .val (.long j2), .second, .val (.int b7), .val (.int b8), .val (.int (0 : Int32)), .val (.int b10), .val (.int b11), .val (.int b12), .val (.ref o), .val (.ref o'), .val .null, .unset] [.null]))
        refine own_by (fun t k => XS.aload X26.here hx rfl (hb hby at_185) rfl rfl k) ?_
        show own_Go p.tables e below K (T26.setTop (mkF m 187 #[.val (.int q1), .val (.int q2), .val (.int q3), .val (.long j1), .second, .val (.long j2), .second, .val (.int b7), .val (.int b8), .val (.int (0 : Int32)), .val (.int b10), .val (.int b11), .val (.int b12), .val (.ref o), .val (.ref o'), .val .null, .unset] [.null, .null]))
        refine own_by (fun t k => Jvm.RoadKit.acmp (g := (mkF m 187 #[.val (.int q1), .val (.int q2), .val (.int q3), .val (.long j1), .second, .val (.long j2), .second, .val (.int b7), .val (.int b8), .val (.int (0 : Int32)), .val (.int b10), .val (.int b11), .val (.int b12), .val (.ref o), .val (.ref o'), .val .null, .unset] [.null, .null])) X26 hx rfl rfl rfl (pc0 := 187) (pc' := 190) (same := true) rfl (hb hby at_187) rfl (decide_eq_true rfl) (by decide) (by decide) k) ?_
        show own_Go p.tables e below K (T26.setTop (mkF m 190 #[.val (.int q1), .val (.int q2), .val (.int q3), .val (.long j1), .second, .val (.long j2), .second, .val (.int b7), .val (.int b8), .val (.int (0 : Int32)), .val (.int b10), .val (.int b11), .val (.int b12), .val (.ref o), .val (.ref o'), .val .null, .unset] []))
        refine own_by (fun t k => XS.aload X26.here hx rfl (hb hby at_190) rfl rfl k) ?_
        show own_Go p.tables e below K (T26.setTop (mkF m 192 #[.val (.int q1), .val (.int q2), .val (.int q3), .val (.long j1), .second, .val (.long j2), .second, .val (.int b7), .val (.int b8), .val (.int (0 : Int32)), .val (.int b10), .val (.int b11), .val (.int b12), .val (.ref o), .val (.ref o'), .val .null, .unset] [.null]))
        refine own_by (fun t k => XS.ifnullYes X26.here hx rfl (pc0 := 192) (pc' := 199) rfl (hb hby at_192) rfl (by decide) (by decide) k) ?_
        show own_Go p.tables e below K (T26.setTop (mkF m 199 #[.val (.int q1), .val (.int q2), .val (.int q3), .val (.long j1), .second, .val (.long j2), .second, .val (.int b7), .val (.int b8), .val (.int (0 : Int32)), .val (.int b10), .val (.int b11), .val (.int b12), .val (.ref o), .val (.ref o'), .val .null, .unset] []))
        refine own_by (fun t k => XS.iconst X26.here hx rfl (hb hby at_199) k) ?_
        show own_Go p.tables e below K (T26.setTop (mkF m 200 #[.val (.int q1), .val (.int q2), .val (.int q3), .val (.long j1), .second, .val (.long j2), .second, .val (.int b7), .val (.int b8), .val (.int (0 : Int32)), .val (.int b10), .val (.int b11), .val (.int b12), .val (.ref o), .val (.ref o'), .val .null, .unset] [(.int (0 : Int32))]))
        refine own_by (fun t k => XS.iload X26.here hx rfl (hb hby at_200) rfl k) ?_
        show own_Go p.tables e below K (T26.setTop (mkF m 202 #[.val (.int q1), .val (.int q2), .val (.int q3), .val (.long j1), .second, .val (.long j2), .second, .val (.int b7), .val (.int b8), .val (.int (0 : Int32)), .val (.int b10), .val (.int b11), .val (.int b12), .val (.ref o), .val (.ref o'), .val .null, .unset] [(.int (0 : Int32)), (.int (0 : Int32))]))
        have hc202 : (0 : Int32) = (0 : Int32) := rfl
        refine own_by (fun t k => XS.icmpNo X26.here hx rfl (hb hby at_202) rfl (teq hc202).2 k) ?_
        show own_Go p.tables e below K (T26.setTop (mkF m 205 #[.val (.int q1), .val (.int q2), .val (.int q3), .val (.long j1), .second, .val (.long j2), .second, .val (.int b7), .val (.int b8), .val (.int (0 : Int32)), .val (.int b10), .val (.int b11), .val (.int b12), .val (.ref o), .val (.ref o'), .val .null, .unset] []))
        refine own_by (fun t k => XS.iconst X26.here hx rfl (hb hby at_205) k) ?_
        show own_Go p.tables e below K (T26.setTop (mkF m 206 #[.val (.int q1), .val (.int q2), .val (.int q3), .val (.long j1), .second, .val (.long j2), .second, .val (.int b7), .val (.int b8), .val (.int (0 : Int32)), .val (.int b10), .val (.int b11), .val (.int b12), .val (.ref o), .val (.ref o'), .val .null, .unset] [(.int (1 : Int32))]))
        refine own_by (fun t k => XS.goto X26.here hx rfl (pc0 := 206) (pc' := 210) rfl (hb hby at_206) (by decide) (by decide) k) ?_
        show own_Go p.tables e below K (T26.setTop (mkF m 210 #[.val (.int q1), .val (.int q2), .val (.int q3), .val (.long j1), .second, .val (.long j2), .second, .val (.int b7), .val (.int b8), .val (.int (0 : Int32)), .val (.int b10), .val (.int b11), .val (.int b12), .val (.ref o), .val (.ref o'), .val .null, .unset] [(.int (1 : Int32))]))
        refine own_by (fun t k => XS.istore X26.here hx rfl (hb hby at_210) rfl (l' := #[.val (.int q1), .val (.int q2), .val (.int q3), .val (.long j1), .second, .val (.long j2), .second, .val (.int b7), .val (.int b8), .val (.int (0 : Int32)), .val (.int b10), .val (.int b11), .val (.int b12), .val (.ref o), .val (.ref o'), .val .null, .val (.int (1 : Int32))]) rfl k) ?_
        show own_Go p.tables e below K (T26.setTop (mkF m 212 #[.val (.int q1), .val (.int q2), .val (.int q3), .val (.long j1), .second, .val (.long j2), .second, .val (.int b7), .val (.int b8), .val (.int (0 : Int32)), .val (.int b10), .val (.int b11), .val (.int b12), .val (.ref o), .val (.ref o'), .val .null, .val (.int (1 : Int32))] []))
        refine own_by (fun t k => XS.aload X26.here hx rfl (hb hby at_212) rfl rfl k) ?_
        show own_Go p.tables e below K (T26.setTop (mkF m 214 #[.val (.int q1), .val (.int q2), .val (.int q3), .val (.long j1), .second, .val (.long j2), .second, .val (.int b7), .val (.int b8), .val (.int (0 : Int32)), .val (.int b10), .val (.int b11), .val (.int b12), .val (.ref o), .val (.ref o'), .val .null, .val (.int (1 : Int32))] [(.ref o')]))
        obtain ⟨cq27, kq27, q27a, q27b, q27c⟩ := isOf hZ e26 Bp24.1
        obtain ⟨_, _, ⟨T27, L27, k27, n27⟩, -, X27, ⟨Lc27, hQ27, l27, y27, z27⟩, st27⟩ := X26.virtualBack hx (y := (⟨"com/example/minilingua/minilingua/lang/adpl/Binding", "assigned", "()Z"⟩ : MethodName)) (z := (⟨"com/example/minilingua/minilingua/lang/adpl/Binding", "assigned", "()Z"⟩ : MethodName)) hown (mvT hZ (hw _ (List.mem_of_getElem? (i := 32) rfl))) (mvT hZ (hw _ (List.mem_of_getElem? (i := 33) rfl))) (notFace_of_selects (args := #[]) (mvT hZ (hw _ (List.mem_of_getElem? (i := 35) rfl)))) (mvT hZ (hw _ (List.mem_of_getElem? (i := 35) rfl))) (mvT hZ (hw _ (List.mem_of_getElem? (i := 34) rfl))) (by decide) (backOf (W := 0) (own_rmasg l Z a0 hw [] o' b7 0 q2 .null T24.heap n0 Z24 Bp24) hZ (hw _ (List.mem_of_getElem? (i := 36) rfl)) (hw _ (List.mem_of_getElem? (i := 2) rfl)) (by decide) (by decide)) q27a q27c (g := (mkF m 214 #[.val (.int q1), .val (.int q2), .val (.int q3), .val (.long j1), .second, .val (.long j2), .second, .val (.int b7), .val (.int b8), .val (.int (0 : Int32)), .val (.int b10), .val (.int b11), .val (.int b12), .val (.ref o), .val (.ref o'), .val .null, .val (.int (1 : Int32))] [(.ref o')])) rfl (by rw [hml]; rfl) (Steps.refl _) (argsL := []) (rest := []) (lenOf own_pd4 rfl) rfl (by show 2 * 0 + _ ≤ _; exact Nat.le_of_eq rfl) (hb hby at_214) (fun _ _ => ⟨rfl, e26, (by decide : 4 + 0 ≤ _), (by decide : 12 + 0 ≤ _)⟩)
        dsimp only [Pt.U, Pt.locs, Pt.cells, Pt.slots] at X27 l27 y27 z27 st27 hQ27
        subst l27 y27 z27
        obtain ⟨rfl, N27q, e27⟩ := hQ27
        have N27 := Fr.app N26 N27q
        refine own_by (fun t k => st27.trans k) ?_
        rw [own_nb hb7]
        show own_Go p.tables e below K (T27.setTop (mkF m 217 #[.val (.int q1), .val (.int q2), .val (.int q3), .val (.long j1), .second, .val (.long j2), .second, .val (.int b7), .val (.int b8), .val (.int (0 : Int32)), .val (.int b10), .val (.int b11), .val (.int b12), .val (.ref o), .val (.ref o'), .val .null, .val (.int (1 : Int32))] [(.int b7)]))
        refine own_by (fun t k => XS.iload X27.here hx rfl (hb hby at_217) rfl k) ?_
        show own_Go p.tables e below K (T27.setTop (mkF m 219 #[.val (.int q1), .val (.int q2), .val (.int q3), .val (.long j1), .second, .val (.long j2), .second, .val (.int b7), .val (.int b8), .val (.int (0 : Int32)), .val (.int b10), .val (.int b11), .val (.int b12), .val (.ref o), .val (.ref o'), .val .null, .val (.int (1 : Int32))] [(.int b7), (.int b7)]))
        have hc219 : b7 = b7 := rfl
        refine own_by (fun t k => XS.icmpNo X27.here hx rfl (hb hby at_219) rfl (teq hc219).2 k) ?_
        show own_Go p.tables e below K (T27.setTop (mkF m 222 #[.val (.int q1), .val (.int q2), .val (.int q3), .val (.long j1), .second, .val (.long j2), .second, .val (.int b7), .val (.int b8), .val (.int (0 : Int32)), .val (.int b10), .val (.int b11), .val (.int b12), .val (.ref o), .val (.ref o'), .val .null, .val (.int (1 : Int32))] []))
        refine own_by (fun t k => XS.aload X27.here hx rfl (hb hby at_222) rfl rfl k) ?_
        show own_Go p.tables e below K (T27.setTop (mkF m 224 #[.val (.int q1), .val (.int q2), .val (.int q3), .val (.long j1), .second, .val (.long j2), .second, .val (.int b7), .val (.int b8), .val (.int (0 : Int32)), .val (.int b10), .val (.int b11), .val (.int b12), .val (.ref o), .val (.ref o'), .val .null, .val (.int (1 : Int32))] [(.ref o')]))
        obtain ⟨cq28, kq28, q28a, q28b, q28c⟩ := isOf hZ e27 Bp24.1
        obtain ⟨_, _, ⟨T28, L28, k28, n28⟩, -, X28, ⟨Lc28, hQ28, l28, y28, z28⟩, st28⟩ := X27.virtualBack hx (y := (⟨"com/example/minilingua/minilingua/lang/adpl/Binding", "isLocal", "()Z"⟩ : MethodName)) (z := (⟨"com/example/minilingua/minilingua/lang/adpl/Binding", "isLocal", "()Z"⟩ : MethodName)) hown (mvT hZ (hw _ (List.mem_of_getElem? (i := 37) rfl))) (mvT hZ (hw _ (List.mem_of_getElem? (i := 38) rfl))) (notFace_of_selects (args := #[]) (mvT hZ (hw _ (List.mem_of_getElem? (i := 40) rfl)))) (mvT hZ (hw _ (List.mem_of_getElem? (i := 40) rfl))) (mvT hZ (hw _ (List.mem_of_getElem? (i := 39) rfl))) (by decide) (backOf (W := 0) (own_rmloc l Z a0 hw [] o' b7 0 q2 .null T24.heap n0 Z24 Bp24) hZ (hw _ (List.mem_of_getElem? (i := 41) rfl)) (hw _ (List.mem_of_getElem? (i := 2) rfl)) (by decide) (by decide)) q28a q28c (g := (mkF m 224 #[.val (.int q1), .val (.int q2), .val (.int q3), .val (.long j1), .second, .val (.long j2), .second, .val (.int b7), .val (.int b8), .val (.int (0 : Int32)), .val (.int b10), .val (.int b11), .val (.int b12), .val (.ref o), .val (.ref o'), .val .null, .val (.int (1 : Int32))] [(.ref o')])) rfl (by rw [hml]; rfl) (Steps.refl _) (argsL := []) (rest := []) (lenOf own_pd4 rfl) rfl (by show 2 * 0 + _ ≤ _; exact Nat.le_of_eq rfl) (hb hby at_224) (fun _ _ => ⟨rfl, e27, (by decide : 4 + 0 ≤ _), (by decide : 12 + 0 ≤ _)⟩)
        dsimp only [Pt.U, Pt.locs, Pt.cells, Pt.slots] at X28 l28 y28 z28 st28 hQ28
        subst l28 y28 z28
        obtain ⟨rfl, N28q, e28⟩ := hQ28
        have N28 := Fr.app N27 N28q
        refine own_by (fun t k => st28.trans k) ?_
        rw [own_nb (Or.inl rfl)]
        show own_Go p.tables e below K (T28.setTop (mkF m 227 #[.val (.int q1), .val (.int q2), .val (.int q3), .val (.long j1), .second, .val (.long j2), .second, .val (.int b7), .val (.int b8), .val (.int (0 : Int32)), .val (.int b10), .val (.int b11), .val (.int b12), .val (.ref o), .val (.ref o'), .val .null, .val (.int (1 : Int32))] [(.int (0 : Int32))]))
        have hc227 : (0 : Int32) = (0 : Int32) := rfl
        refine own_by (fun t k => XS.ifNo X28.here hx rfl (hb hby at_227) rfl ((if0 _ _).trans (teq hc227).2) k) ?_
        show own_Go p.tables e below K (T28.setTop (mkF m 230 #[.val (.int q1), .val (.int q2), .val (.int q3), .val (.long j1), .second, .val (.long j2), .second, .val (.int b7), .val (.int b8), .val (.int (0 : Int32)), .val (.int b10), .val (.int b11), .val (.int b12), .val (.ref o), .val (.ref o'), .val .null, .val (.int (1 : Int32))] []))
        refine own_by (fun t k => XS.aload X28.here hx rfl (hb hby at_230) rfl rfl k) ?_
        show own_Go p.tables e below K (T28.setTop (mkF m 232 #[.val (.int q1), .val (.int q2), .val (.int q3), .val (.long j1), .second, .val (.long j2), .second, .val (.int b7), .val (.int b8), .val (.int (0 : Int32)), .val (.int b10), .val (.int b11), .val (.int b12), .val (.ref o), .val (.ref o'), .val .null, .val (.int (1 : Int32))] [(.ref o')]))
        obtain ⟨cq29, kq29, q29a, q29b, q29c⟩ := isOf hZ e28 Bp24.1
        obtain ⟨_, _, ⟨T29, L29, k29, n29⟩, -, X29, ⟨Lc29, hQ29, l29, y29, z29⟩, st29⟩ := X28.virtualBack hx (y := (⟨"com/example/minilingua/minilingua/lang/adpl/Binding", "slot", "()I"⟩ : MethodName)) (z := (⟨"com/example/minilingua/minilingua/lang/adpl/Binding", "slot", "()I"⟩ : MethodName)) hown (mvT hZ (hw _ (List.mem_of_getElem? (i := 42) rfl))) (mvT hZ (hw _ (List.mem_of_getElem? (i := 43) rfl))) (notFace_of_selects (args := #[]) (mvT hZ (hw _ (List.mem_of_getElem? (i := 45) rfl)))) (mvT hZ (hw _ (List.mem_of_getElem? (i := 45) rfl))) (mvT hZ (hw _ (List.mem_of_getElem? (i := 44) rfl))) (by decide) (backOf (W := 0) (own_rmslot l Z a0 hw [] o' b7 0 q2 .null T24.heap n0 Z24 Bp24) hZ (hw _ (List.mem_of_getElem? (i := 46) rfl)) (hw _ (List.mem_of_getElem? (i := 2) rfl)) (by decide) (by decide)) q29a q29c (g := (mkF m 232 #[.val (.int q1), .val (.int q2), .val (.int q3), .val (.long j1), .second, .val (.long j2), .second, .val (.int b7), .val (.int b8), .val (.int (0 : Int32)), .val (.int b10), .val (.int b11), .val (.int b12), .val (.ref o), .val (.ref o'), .val .null, .val (.int (1 : Int32))] [(.ref o')])) rfl (by rw [hml]; rfl) (Steps.refl _) (argsL := []) (rest := []) (lenOf own_pd5 rfl) rfl (by show 2 * 0 + _ ≤ _; exact Nat.le_of_eq rfl) (hb hby at_232) (fun _ _ => ⟨rfl, e28, (by decide : 4 + 0 ≤ _), (by decide : 12 + 0 ≤ _)⟩)
        dsimp only [Pt.U, Pt.locs, Pt.cells, Pt.slots] at X29 l29 y29 z29 st29 hQ29
        subst l29 y29 z29
        obtain ⟨rfl, N29q, e29⟩ := hQ29
        have N29 := Fr.app N28 N29q
        refine own_by (fun t k => st29.trans k) ?_
        show own_Go p.tables e below K (T29.setTop (mkF m 235 #[.val (.int q1), .val (.int q2), .val (.int q3), .val (.long j1), .second, .val (.long j2), .second, .val (.int b7), .val (.int b8), .val (.int (0 : Int32)), .val (.int b10), .val (.int b11), .val (.int b12), .val (.ref o), .val (.ref o'), .val .null, .val (.int (1 : Int32))] [(.int q2)]))
        refine own_by (fun t k => XS.iloadN X29.here hx rfl (hb hby at_235) rfl k) ?_
        show own_Go p.tables e below K (T29.setTop (mkF m 236 #[.val (.int q1), .val (.int q2), .val (.int q3), .val (.long j1), .second, .val (.long j2), .second, .val (.int b7), .val (.int b8), .val (.int (0 : Int32)), .val (.int b10), .val (.int b11), .val (.int b12), .val (.ref o), .val (.ref o'), .val .null, .val (.int (1 : Int32))] [(.int q2), (.int q2)]))
        have hc236 : q2 = q2 := rfl
        refine own_by (fun t k => XS.icmpNo X29.here hx rfl (hb hby at_236) rfl (teq hc236).2 k) ?_
        show own_Go p.tables e below K (T29.setTop (mkF m 239 #[.val (.int q1), .val (.int q2), .val (.int q3), .val (.long j1), .second, .val (.long j2), .second, .val (.int b7), .val (.int b8), .val (.int (0 : Int32)), .val (.int b10), .val (.int b11), .val (.int b12), .val (.ref o), .val (.ref o'), .val .null, .val (.int (1 : Int32))] []))
        refine own_by (fun t k => XS.iload X29.here hx rfl (hb hby at_239) rfl k) ?_
        show own_Go p.tables e below K (T29.setTop (mkF m 241 #[.val (.int q1), .val (.int q2), .val (.int q3), .val (.long j1), .second, .val (.long j2), .second, .val (.int b7), .val (.int b8), .val (.int (0 : Int32)), .val (.int b10), .val (.int b11), .val (.int b12), .val (.ref o), .val (.ref o'), .val .null, .val (.int (1 : Int32))] [(.int (1 : Int32))]))
        have hc241 : ¬ ((1 : Int32) = (0 : Int32)) := by decide
        refine own_by (fun t k => XS.ifNo X29.here hx rfl (hb hby at_241) rfl ((if0 _ _).trans (feq hc241).1) k) ?_
        show own_Go p.tables e below K (T29.setTop (mkF m 244 #[.val (.int q1), .val (.int q2), .val (.int q3), .val (.long j1), .second, .val (.long j2), .second, .val (.int b7), .val (.int b8), .val (.int (0 : Int32)), .val (.int b10), .val (.int b11), .val (.int b12), .val (.ref o), .val (.ref o'), .val .null, .val (.int (1 : Int32))] []))
        refine own_by (fun t k => XS.iconst X29.here hx rfl (hb hby at_244) k) ?_
        show own_Go p.tables e below K (T29.setTop (mkF m 245 #[.val (.int q1), .val (.int q2), .val (.int q3), .val (.long j1), .second, .val (.long j2), .second, .val (.int b7), .val (.int b8), .val (.int (0 : Int32)), .val (.int b10), .val (.int b11), .val (.int b12), .val (.ref o), .val (.ref o'), .val .null, .val (.int (1 : Int32))] [(.int (1 : Int32))]))
        refine own_by (fun t k => XS.goto X29.here hx rfl (pc0 := 245) (pc' := 249) rfl (hb hby at_245) (by decide) (by decide) k) ?_
        show own_Go p.tables e below K (T29.setTop (mkF m 249 #[.val (.int q1), .val (.int q2), .val (.int q3), .val (.long j1), .second, .val (.long j2), .second, .val (.int b7), .val (.int b8), .val (.int (0 : Int32)), .val (.int b10), .val (.int b11), .val (.int b12), .val (.ref o), .val (.ref o'), .val .null, .val (.int (1 : Int32))] [(.int (1 : Int32))]))
        exact own_retZ X29 hx (t := .boolean) hret (by simp) (hb hby at_249) (hK (some (.int (1 : Int32))) X29 (fun h => by rw [hret] at h; cases h) (⟨rfl, N29⟩) (by decide) (by decide))
      · show own_Go p.tables e below K (T'.setTop (mkF m 166 #[.val (.int q1), .val (.int q2), .val (.int q3), .val (.long j1), .second, .val (.long j2), .second, .val (.int b7), .val (.int b8), .val (.int (1 : Int32)), .val (.int b10), .val (.int b11), .val (.int b12), .val (.ref o), .val (.ref o'), .unset, .unset] []))
        refine own_by (fun t k => XS.aload X'.here hx rfl (hb hby at_166) rfl rfl k) ?_
        show own_Go p.tables e below K (T'.setTop (mkF m 168 #[.val (.int q1), .val (.int q2), .val (.int q3), .val (.long j1), .second, .val (.long j2), .second, .val (.int b7), .val (.int b8), .val (.int (1 : Int32)), .val (.int b10), .val (.int b11), .val (.int b12), .val (.ref o), .val (.ref o'), .unset, .unset] [(.ref o')]))
        refine own_by (fun t k => XS.aload X'.here hx rfl (hb hby at_168) rfl rfl k) ?_
        show own_Go p.tables e below K (T'.setTop (mkF m 170 #[.val (.int q1), .val (.int q2), .val (.int q3), .val (.long j1), .second, .val (.long j2), .second, .val (.int b7), .val (.int b8), .val (.int (1 : Int32)), .val (.int b10), .val (.int b11), .val (.int b12), .val (.ref o), .val (.ref o'), .unset, .unset] [(.ref o), (.ref o')]))
        obtain ⟨cq30, kq30, q30a, q30b, q30c⟩ := isOf hZ rfl B'.1
        obtain ⟨_, _, ⟨T30, L30, k30, n30⟩, -, X30, ⟨Lc30, hQ30, l30, y30, z30⟩, st30⟩ := X'.virtualBack hx (y := (⟨"com/example/minilingua/minilingua/lang/adpl/Binding", "placeAs", "(Lcom/example/minilingua/minilingua/lang/adpl/Binding;)V"⟩ : MethodName)) (z := (⟨"com/example/minilingua/minilingua/lang/adpl/Binding", "placeAs", "(Lcom/example/minilingua/minilingua/lang/adpl/Binding;)V"⟩ : MethodName)) hown (mvT hZ (hw _ (List.mem_of_getElem? (i := 18) rfl))) (mvT hZ (hw _ (List.mem_of_getElem? (i := 19) rfl))) (notFace_of_selects (args := #[]) (mvT hZ (hw _ (List.mem_of_getElem? (i := 21) rfl)))) (mvT hZ (hw _ (List.mem_of_getElem? (i := 21) rfl))) (mvT hZ (hw _ (List.mem_of_getElem? (i := 20) rfl))) (by decide) (backOf (W := 0) (own_rmas l Z a0 hw [] o' o b7 b8 q2 (.ref vv) b10 b11 q3 cf T'.heap n0 Z' B' go' B (Ne.symm hne)) hZ (hw _ (List.mem_of_getElem? (i := 22) rfl)) (hw _ (List.mem_of_getElem? (i := 2) rfl)) (by decide) (by decide)) q30a q30c (g := (mkF m 170 #[.val (.int q1), .val (.int q2), .val (.int q3), .val (.long j1), .second, .val (.long j2), .second, .val (.int b7), .val (.int b8), .val (.int (1 : Int32)), .val (.int b10), .val (.int b11), .val (.int b12), .val (.ref o), .val (.ref o'), .unset, .unset] [(.ref o), (.ref o')])) rfl (by rw [hml]; rfl) (Steps.refl _) (argsL := [(.ref o)]) (rest := []) (lenOf own_pd2 rfl) rfl (by show 2 * 0 + _ ≤ _; exact Nat.le_of_eq rfl) (hb hby at_170) (fun _ _ => ⟨rfl, rfl, (by decide : 4 + 0 ≤ _), (by decide : 12 + 0 ≤ _)⟩)
        dsimp only [Pt.U, Pt.locs, Pt.cells, Pt.slots] at X30 l30 y30 z30 st30 hQ30
        subst l30 y30 z30
        obtain ⟨rfl, N30q, Kp30, Bp30⟩ := hQ30
        have N30 := Fr.app N' N30q
        refine own_by (fun t k => st30.trans k) ?_
        have Bk30 := B.keep Kp30 (ninS hne nin0)
        have Z30 := Nat.le_trans Z' Kp30.1
        have O30 := O'.keep Kp30 (allS go' (all0))
        rw [own_nb hb7] at Bp30
        show own_Go p.tables e below K (T30.setTop (mkF m 173 #[.val (.int q1), .val (.int q2), .val (.int q3), .val (.long j1), .second, .val (.long j2), .second, .val (.int b7), .val (.int b8), .val (.int (1 : Int32)), .val (.int b10), .val (.int b11), .val (.int b12), .val (.ref o), .val (.ref o'), .unset, .unset] []))
        refine own_by (fun t k => XS.aload X30.here hx rfl (hb hby at_173) rfl rfl k) ?_
        show own_Go p.tables e below K (T30.setTop (mkF m 175 #[.val (.int q1), .val (.int q2), .val (.int q3), .val (.long j1), .second, .val (.long j2), .second, .val (.int b7), .val (.int b8), .val (.int (1 : Int32)), .val (.int b10), .val (.int b11), .val (.int b12), .val (.ref o), .val (.ref o'), .unset, .unset] [(.ref o)]))
        obtain ⟨cq31, kq31, q31a, q31b, q31c⟩ := isOf hZ rfl Bk30.1
        obtain ⟨_, _, ⟨T31, L31, k31, n31⟩, -, X31, ⟨Lc31, hQ31, l31, y31, z31⟩, st31⟩ := X30.virtualBack hx (y := (⟨"com/example/minilingua/minilingua/lang/adpl/Binding", "cell", "()Lcom/example/minilingua/minilingua/lang/adpl/Value;"⟩ : MethodName)) (z := (⟨"com/example/minilingua/minilingua/lang/adpl/Binding", "cell", "()Lcom/example/minilingua/minilingua/lang/adpl/Value;"⟩ : MethodName)) hown (mvT hZ (hw _ (List.mem_of_getElem? (i := 27) rfl))) (mvT hZ (hw _ (List.mem_of_getElem? (i := 28) rfl))) (notFace_of_selects (args := #[]) (mvT hZ (hw _ (List.mem_of_getElem? (i := 30) rfl)))) (mvT hZ (hw _ (List.mem_of_getElem? (i := 30) rfl))) (mvT hZ (hw _ (List.mem_of_getElem? (i := 29) rfl))) (by decide) (backOf (W := 0) (own_rmcell l Z a0 hw [] o b7 b8 q2 (.ref vv) T30.heap n0 Z30 Bk30) hZ (hw _ (List.mem_of_getElem? (i := 31) rfl)) (hw _ (List.mem_of_getElem? (i := 2) rfl)) (by decide) (by decide)) q31a q31c (g := (mkF m 175 #[.val (.int q1), .val (.int q2), .val (.int q3), .val (.long j1), .second, .val (.long j2), .second, .val (.int b7), .val (.int b8), .val (.int (1 : Int32)), .val (.int b10), .val (.int b11), .val (.int b12), .val (.ref o), .val (.ref o'), .unset, .unset] [(.ref o)])) rfl (by rw [hml]; rfl) (Steps.refl _) (argsL := []) (rest := []) (lenOf own_pd3 rfl) rfl (by show 2 * 0 + _ ≤ _; exact Nat.le_of_eq rfl) (hb hby at_175) (fun _ _ => ⟨rfl, rfl, (by decide : 4 + 0 ≤ _), (by decide : 12 + 0 ≤ _)⟩)
        dsimp only [Pt.U, Pt.locs, Pt.cells, Pt.slots] at X31 l31 y31 z31 st31 hQ31
        subst l31 y31 z31
        obtain ⟨rfl, N31q, e31⟩ := hQ31
        have N31 := Fr.app N30 N31q
        refine own_by (fun t k => st31.trans k) ?_
        show own_Go p.tables e below K (T31.setTop (mkF m 178 #[.val (.int q1), .val (.int q2), .val (.int q3), .val (.long j1), .second, .val (.long j2), .second, .val (.int b7), .val (.int b8), .val (.int (1 : Int32)), .val (.int b10), .val (.int b11), .val (.int b12), .val (.ref o), .val (.ref o'), .unset, .unset] [(.ref vv)]))
        refine own_by (fun t k => XS.astore X31.here hx rfl (hb hby at_178) rfl rfl (l' := #[.val (.int q1), .val (.int q2), .val (.int q3), .val (.long j1), .second, .val (.long j2), .second, .val (.int b7), .val (.int b8), .val (.int (1 : Int32)), .val (.int b10), .val (.int b11), .val (.int b12), .val (.ref o), .val (.ref o'), .val (.ref vv), .unset]) rfl k) ?_
        show own_Go p.tables e below K (T31.setTop (mkF m 180 #[.val (.int q1), .val (.int q2), .val (.int q3), .val (.long j1), .second, .val (.long j2), .second, .val (.int b7), .val (.int b8), .val (.int (1 : Int32)), .val (.int b10), .val (.int b11), .val (.int b12), .val (.ref o), .val (.ref o'), .val (.ref vv), .unset] []))
        refine own_by (fun t k => XS.aload X31.here hx rfl (hb hby at_180) rfl rfl k) ?_
        show own_Go p.tables e below K (T31.setTop (mkF m 182 #[.val (.int q1), .val (.int q2), .val (.int q3), .val (.long j1), .second, .val (.long j2), .second, .val (.int b7), .val (.int b8), .val (.int (1 : Int32)), .val (.int b10), .val (.int b11), .val (.int b12), .val (.ref o), .val (.ref o'), .val (.ref vv), .unset] [(.ref o')]))
        obtain ⟨cq32, kq32, q32a, q32b, q32c⟩ := isOf hZ e31 Bp30.1
        obtain ⟨_, _, ⟨T32, L32, k32, n32⟩, -, X32, ⟨Lc32, hQ32, l32, y32, z32⟩, st32⟩ := X31.virtualBack hx (y := (⟨"com/example/minilingua/minilingua/lang/adpl/Binding", "cell", "()Lcom/example/minilingua/minilingua/lang/adpl/Value;"⟩ : MethodName)) (z := (⟨"com/example/minilingua/minilingua/lang/adpl/Binding", "cell", "()Lcom/example/minilingua/minilingua/lang/adpl/Value;"⟩ : MethodName)) hown (mvT hZ (hw _ (List.mem_of_getElem? (i := 27) rfl))) (mvT hZ (hw _ (List.mem_of_getElem? (i := 28) rfl))) (notFace_of_selects (args := #[]) (mvT hZ (hw _ (List.mem_of_getElem? (i := 30) rfl)))) (mvT hZ (hw _ (List.mem_of_getElem? (i := 30) rfl))) (mvT hZ (hw _ (List.mem_of_getElem? (i := 29) rfl))) (by decide) (backOf (W := 0) (own_rmcell l Z a0 hw [] o' b7 0 q2 (.ref vv) T30.heap n0 Z30 Bp30) hZ (hw _ (List.mem_of_getElem? (i := 31) rfl)) (hw _ (List.mem_of_getElem? (i := 2) rfl)) (by decide) (by decide)) q32a q32c (g := (mkF m 182 #[.val (.int q1), .val (.int q2), .val (.int q3), .val (.long j1), .second, .val (.long j2), .second, .val (.int b7), .val (.int b8), .val (.int (1 : Int32)), .val (.int b10), .val (.int b11), .val (.int b12), .val (.ref o), .val (.ref o'), .val (.ref vv), .unset] [(.ref o')])) rfl (by rw [hml]; rfl) (Steps.refl _) (argsL := []) (rest := []) (lenOf own_pd3 rfl) rfl (by show 2 * 0 + _ ≤ _; exact Nat.le_of_eq rfl) (hb hby at_182) (fun _ _ => ⟨rfl, e31, (by decide : 4 + 0 ≤ _), (by decide : 12 + 0 ≤ _)⟩)
        dsimp only [Pt.U, Pt.locs, Pt.cells, Pt.slots] at X32 l32 y32 z32 st32 hQ32
        subst l32 y32 z32
        obtain ⟨rfl, N32q, e32⟩ := hQ32
        have N32 := Fr.app N31 N32q
        refine own_by (fun t k => st32.trans k) ?_
        show own_Go p.tables e below K (T32.setTop (mkF m 185 #[.val (.int q1), .val (.int q2), .val (.int q3), .val (.long j1), .second, .val (.long j2), .second, .val (.int b7), .val (.int b8), .val (.int (1 : Int32)), .val (.int b10), .val (.int b11), .val (.int b12), .val (.ref o), .val (.ref o'), .val (.ref vv), .unset] [(.ref vv)]))
        refine own_by (fun t k => XS.aload X32.here hx rfl (hb hby at_185) rfl rfl k) ?_
        show own_Go p.tables e below K (T32.setTop (mkF m 187 #[.val (.int q1), .val (.int q2), .val (.int q3), .val (.long j1), .second, .val (.long j2), .second, .val (.int b7), .val (.int b8), .val (.int (1 : Int32)), .val (.int b10), .val (.int b11), .val (.int b12), .val (.ref o), .val (.ref o'), .val (.ref vv), .unset] [(.ref vv), (.ref vv)]))
        refine own_by (fun t k => Jvm.RoadKit.acmp (g := (mkF m 187 #[.val (.int q1), .val (.int q2), .val (.int q3), .val (.long j1), .second, .val (.long j2), .second, .val (.int b7), .val (.int b8), .val (.int (1 : Int32)), .val (.int b10), .val (.int b11), .val (.int b12), .val (.ref o), .val (.ref o'), .val (.ref vv), .unset] [(.ref vv), (.ref vv)])) X32 hx rfl rfl rfl (pc0 := 187) (pc' := 190) (same := true) rfl (hb hby at_187) rfl (decide_eq_true rfl) (by decide) (by decide) k) ?_
        show own_Go p.tables e below K (T32.setTop (mkF m 190 #[.val (.int q1), .val (.int q2), .val (.int q3), .val (.long j1), .second, .val (.long j2), .second, .val (.int b7), .val (.int b8), .val (.int (1 : Int32)), .val (.int b10), .val (.int b11), .val (.int b12), .val (.ref o), .val (.ref o'), .val (.ref vv), .unset] []))
        refine own_by (fun t k => XS.aload X32.here hx rfl (hb hby at_190) rfl rfl k) ?_
        show own_Go p.tables e below K (T32.setTop (mkF m 192 #[.val (.int q1), .val (.int q2), .val (.int q3), .val (.long j1), .second, .val (.long j2), .second, .val (.int b7), .val (.int b8), .val (.int (1 : Int32)), .val (.int b10), .val (.int b11), .val (.int b12), .val (.ref o), .val (.ref o'), .val (.ref vv), .unset] [(.ref vv)]))
        refine own_by (fun t k => XS.ifnullNo X32.here hx rfl (hb hby at_192) rfl k) ?_
        show own_Go p.tables e below K (T32.setTop (mkF m 195 #[.val (.int q1), .val (.int q2), .val (.int q3), .val (.long j1), .second, .val (.long j2), .second, .val (.int b7), .val (.int b8), .val (.int (1 : Int32)), .val (.int b10), .val (.int b11), .val (.int b12), .val (.ref o), .val (.ref o'), .val (.ref vv), .unset] []))
        refine own_by (fun t k => XS.iconst X32.here hx rfl (hb hby at_195) k) ?_
        show own_Go p.tables e below K (T32.setTop (mkF m 196 #[.val (.int q1), .val (.int q2), .val (.int q3), .val (.long j1), .second, .val (.long j2), .second, .val (.int b7), .val (.int b8), .val (.int (1 : Int32)), .val (.int b10), .val (.int b11), .val (.int b12), .val (.ref o), .val (.ref o'), .val (.ref vv), .unset] [(.int (1 : Int32))]))
        refine own_by (fun t k => XS.goto X32.here hx rfl (pc0 := 196) (pc' := 200) rfl (hb hby at_196) (by decide) (by decide) k) ?_
        show own_Go p.tables e below K (T32.setTop (mkF m 200 #[.val (.int q1), .val (.int q2), .val (.int q3), .val (.long j1), .second, .val (.long j2), .second, .val (.int b7), .val (.int b8), .val (.int (1 : Int32)), .val (.int b10), .val (.int b11), .val (.int b12), .val (.ref o), .val (.ref o'), .val (.ref vv), .unset] [(.int (1 : Int32))]))
        refine own_by (fun t k => XS.iload X32.here hx rfl (hb hby at_200) rfl k) ?_
        show own_Go p.tables e below K (T32.setTop (mkF m 202 #[.val (.int q1), .val (.int q2), .val (.int q3), .val (.long j1), .second, .val (.long j2), .second, .val (.int b7), .val (.int b8), .val (.int (1 : Int32)), .val (.int b10), .val (.int b11), .val (.int b12), .val (.ref o), .val (.ref o'), .val (.ref vv), .unset] [(.int (1 : Int32)), (.int (1 : Int32))]))
        have hc202 : (1 : Int32) = (1 : Int32) := rfl
        refine own_by (fun t k => XS.icmpNo X32.here hx rfl (hb hby at_202) rfl (teq hc202).2 k) ?_
        show own_Go p.tables e below K (T32.setTop (mkF m 205 #[.val (.int q1), .val (.int q2), .val (.int q3), .val (.long j1), .second, .val (.long j2), .second, .val (.int b7), .val (.int b8), .val (.int (1 : Int32)), .val (.int b10), .val (.int b11), .val (.int b12), .val (.ref o), .val (.ref o'), .val (.ref vv), .unset] []))
        refine own_by (fun t k => XS.iconst X32.here hx rfl (hb hby at_205) k) ?_
        show own_Go p.tables e below K (T32.setTop (mkF m 206 #[.val (.int q1), .val (.int q2), .val (.int q3), .val (.long j1), .second, .val (.long j2), .second, .val (.int b7), .val (.int b8), .val (.int (1 : Int32)), .val (.int b10), .val (.int b11), .val (.int b12), .val (.ref o), .val (.ref o'), .val (.ref vv), .unset] [(.int (1 : Int32))]))
        refine own_by (fun t k => XS.goto X32.here hx rfl (pc0 := 206) (pc' := 210) rfl (hb hby at_206) (by decide) (by decide) k) ?_
        show own_Go p.tables e below K (T32.setTop (mkF m 210 #[.val (.int q1), .val (.int q2), .val (.int q3), .val (.long j1), .second, .val (.long j2), .second, .val (.int b7), .val (.int b8), .val (.int (1 : Int32)), .val (.int b10), .val (.int b11), .val (.int b12), .val (.ref o), .val (.ref o'), .val (.ref vv), .unset] [(.int (1 : Int32))]))
        refine own_by (fun t k => XS.istore X32.here hx rfl (hb hby at_210) rfl (l' := #[.val (.int q1), .val (.int q2), .val (.int q3), .val (.long j1), .second, .val (.long j2), .second, .val (.int b7), .val (.int b8), .val (.int (1 : Int32)), .val (.int b10), .val (.int b11), .val (.int b12), .val (.ref o), .val (.ref o'), .val (.ref vv), .val (.int (1 : Int32))]) rfl k) ?_
        show own_Go p.tables e below K (T32.setTop (mkF m 212 #[.val (.int q1), .val (.int q2), .val (.int q3), .val (.long j1), .second, .val (.long j2), .second, .val (.int b7), .val (.int b8), .val (.int (1 : Int32)), .val (.int b10), .val (.int b11), .val (.int b12), .val (.ref o), .val (.ref o'), .val (.ref vv), .val (.int (1 : Int32))] []))
        refine own_by (fun t k => XS.aload X32.here hx rfl (hb hby at_212) rfl rfl k) ?_
        show own_Go p.tables e below K (T32.setTop (mkF m 214 #[.val (.int q1), .val (.int q2), .val (.int q3), .val (.long j1), .second, .val (.long j2), .second, .val (.int b7), .val (.int b8), .val (.int (1 : Int32)), .val (.int b10), .val (.int b11), .val (.int b12), .val (.ref o), .val (.ref o'), .val (.ref vv), .val (.int (1 : Int32))] [(.ref o')]))
        obtain ⟨cq33, kq33, q33a, q33b, q33c⟩ := isOf hZ e32 Bp30.1
        obtain ⟨_, _, ⟨T33, L33, k33, n33⟩, -, X33, ⟨Lc33, hQ33, l33, y33, z33⟩, st33⟩ := X32.virtualBack hx (y := (⟨"com/example/minilingua/minilingua/lang/adpl/Binding", "assigned", "()Z"⟩ : MethodName)) (z := (⟨"com/example/minilingua/minilingua/lang/adpl/Binding", "assigned", "()Z"⟩ : MethodName)) hown (mvT hZ (hw _ (List.mem_of_getElem? (i := 32) rfl))) (mvT hZ (hw _ (List.mem_of_getElem? (i := 33) rfl))) (notFace_of_selects (args := #[]) (mvT hZ (hw _ (List.mem_of_getElem? (i := 35) rfl)))) (mvT hZ (hw _ (List.mem_of_getElem? (i := 35) rfl))) (mvT hZ (hw _ (List.mem_of_getElem? (i := 34) rfl))) (by decide) (backOf (W := 0) (own_rmasg l Z a0 hw [] o' b7 0 q2 (.ref vv) T30.heap n0 Z30 Bp30) hZ (hw _ (List.mem_of_getElem? (i := 36) rfl)) (hw _ (List.mem_of_getElem? (i := 2) rfl)) (by decide) (by decide)) q33a q33c (g := (mkF m 214 #[.val (.int q1), .val (.int q2), .val (.int q3), .val (.long j1), .second, .val (.long j2), .second, .val (.int b7), .val (.int b8), .val (.int (1 : Int32)), .val (.int b10), .val (.int b11), .val (.int b12), .val (.ref o), .val (.ref o'), .val (.ref vv), .val (.int (1 : Int32))] [(.ref o')])) rfl (by rw [hml]; rfl) (Steps.refl _) (argsL := []) (rest := []) (lenOf own_pd4 rfl) rfl (by show 2 * 0 + _ ≤ _; exact Nat.le_of_eq rfl) (hb hby at_214) (fun _ _ => ⟨rfl, e32, (by decide : 4 + 0 ≤ _), (by decide : 12 + 0 ≤ _)⟩)
        dsimp only [Pt.U, Pt.locs, Pt.cells, Pt.slots] at X33 l33 y33 z33 st33 hQ33
        subst l33 y33 z33
        obtain ⟨rfl, N33q, e33⟩ := hQ33
        have N33 := Fr.app N32 N33q
        refine own_by (fun t k => st33.trans k) ?_
        rw [own_nb hb7]
        show own_Go p.tables e below K (T33.setTop (mkF m 217 #[.val (.int q1), .val (.int q2), .val (.int q3), .val (.long j1), .second, .val (.long j2), .second, .val (.int b7), .val (.int b8), .val (.int (1 : Int32)), .val (.int b10), .val (.int b11), .val (.int b12), .val (.ref o), .val (.ref o'), .val (.ref vv), .val (.int (1 : Int32))] [(.int b7)]))
        refine own_by (fun t k => XS.iload X33.here hx rfl (hb hby at_217) rfl k) ?_
        show own_Go p.tables e below K (T33.setTop (mkF m 219 #[.val (.int q1), .val (.int q2), .val (.int q3), .val (.long j1), .second, .val (.long j2), .second, .val (.int b7), .val (.int b8), .val (.int (1 : Int32)), .val (.int b10), .val (.int b11), .val (.int b12), .val (.ref o), .val (.ref o'), .val (.ref vv), .val (.int (1 : Int32))] [(.int b7), (.int b7)]))
        have hc219 : b7 = b7 := rfl
        refine own_by (fun t k => XS.icmpNo X33.here hx rfl (hb hby at_219) rfl (teq hc219).2 k) ?_
        show own_Go p.tables e below K (T33.setTop (mkF m 222 #[.val (.int q1), .val (.int q2), .val (.int q3), .val (.long j1), .second, .val (.long j2), .second, .val (.int b7), .val (.int b8), .val (.int (1 : Int32)), .val (.int b10), .val (.int b11), .val (.int b12), .val (.ref o), .val (.ref o'), .val (.ref vv), .val (.int (1 : Int32))] []))
        refine own_by (fun t k => XS.aload X33.here hx rfl (hb hby at_222) rfl rfl k) ?_
        show own_Go p.tables e below K (T33.setTop (mkF m 224 #[.val (.int q1), .val (.int q2), .val (.int q3), .val (.long j1), .second, .val (.long j2), .second, .val (.int b7), .val (.int b8), .val (.int (1 : Int32)), .val (.int b10), .val (.int b11), .val (.int b12), .val (.ref o), .val (.ref o'), .val (.ref vv), .val (.int (1 : Int32))] [(.ref o')]))
        obtain ⟨cq34, kq34, q34a, q34b, q34c⟩ := isOf hZ e33 Bp30.1
        obtain ⟨_, _, ⟨T34, L34, k34, n34⟩, -, X34, ⟨Lc34, hQ34, l34, y34, z34⟩, st34⟩ := X33.virtualBack hx (y := (⟨"com/example/minilingua/minilingua/lang/adpl/Binding", "isLocal", "()Z"⟩ : MethodName)) (z := (⟨"com/example/minilingua/minilingua/lang/adpl/Binding", "isLocal", "()Z"⟩ : MethodName)) hown (mvT hZ (hw _ (List.mem_of_getElem? (i := 37) rfl))) (mvT hZ (hw _ (List.mem_of_getElem? (i := 38) rfl))) (notFace_of_selects (args := #[]) (mvT hZ (hw _ (List.mem_of_getElem? (i := 40) rfl)))) (mvT hZ (hw _ (List.mem_of_getElem? (i := 40) rfl))) (mvT hZ (hw _ (List.mem_of_getElem? (i := 39) rfl))) (by decide) (backOf (W := 0) (own_rmloc l Z a0 hw [] o' b7 0 q2 (.ref vv) T30.heap n0 Z30 Bp30) hZ (hw _ (List.mem_of_getElem? (i := 41) rfl)) (hw _ (List.mem_of_getElem? (i := 2) rfl)) (by decide) (by decide)) q34a q34c (g := (mkF m 224 #[.val (.int q1), .val (.int q2), .val (.int q3), .val (.long j1), .second, .val (.long j2), .second, .val (.int b7), .val (.int b8), .val (.int (1 : Int32)), .val (.int b10), .val (.int b11), .val (.int b12), .val (.ref o), .val (.ref o'), .val (.ref vv), .val (.int (1 : Int32))] [(.ref o')])) rfl (by rw [hml]; rfl) (Steps.refl _) (argsL := []) (rest := []) (lenOf own_pd4 rfl) rfl (by show 2 * 0 + _ ≤ _; exact Nat.le_of_eq rfl) (hb hby at_224) (fun _ _ => ⟨rfl, e33, (by decide : 4 + 0 ≤ _), (by decide : 12 + 0 ≤ _)⟩)
        dsimp only [Pt.U, Pt.locs, Pt.cells, Pt.slots] at X34 l34 y34 z34 st34 hQ34
        subst l34 y34 z34
        obtain ⟨rfl, N34q, e34⟩ := hQ34
        have N34 := Fr.app N33 N34q
        refine own_by (fun t k => st34.trans k) ?_
        rw [own_nb (Or.inl rfl)]
        show own_Go p.tables e below K (T34.setTop (mkF m 227 #[.val (.int q1), .val (.int q2), .val (.int q3), .val (.long j1), .second, .val (.long j2), .second, .val (.int b7), .val (.int b8), .val (.int (1 : Int32)), .val (.int b10), .val (.int b11), .val (.int b12), .val (.ref o), .val (.ref o'), .val (.ref vv), .val (.int (1 : Int32))] [(.int (0 : Int32))]))
        have hc227 : (0 : Int32) = (0 : Int32) := rfl
        refine own_by (fun t k => XS.ifNo X34.here hx rfl (hb hby at_227) rfl ((if0 _ _).trans (teq hc227).2) k) ?_
        show own_Go p.tables e below K (T34.setTop (mkF m 230 #[.val (.int q1), .val (.int q2), .val (.int q3), .val (.long j1), .second, .val (.long j2), .second, .val (.int b7), .val (.int b8), .val (.int (1 : Int32)), .val (.int b10), .val (.int b11), .val (.int b12), .val (.ref o), .val (.ref o'), .val (.ref vv), .val (.int (1 : Int32))] []))
        refine own_by (fun t k => XS.aload X34.here hx rfl (hb hby at_230) rfl rfl k) ?_
        show own_Go p.tables e below K (T34.setTop (mkF m 232 #[.val (.int q1), .val (.int q2), .val (.int q3), .val (.long j1), .second, .val (.long j2), .second, .val (.int b7), .val (.int b8), .val (.int (1 : Int32)), .val (.int b10), .val (.int b11), .val (.int b12), .val (.ref o), .val (.ref o'), .val (.ref vv), .val (.int (1 : Int32))] [(.ref o')]))
        obtain ⟨cq35, kq35, q35a, q35b, q35c⟩ := isOf hZ e34 Bp30.1
        obtain ⟨_, _, ⟨T35, L35, k35, n35⟩, -, X35, ⟨Lc35, hQ35, l35, y35, z35⟩, st35⟩ := X34.virtualBack hx (y := (⟨"com/example/minilingua/minilingua/lang/adpl/Binding", "slot", "()I"⟩ : MethodName)) (z := (⟨"com/example/minilingua/minilingua/lang/adpl/Binding", "slot", "()I"⟩ : MethodName)) hown (mvT hZ (hw _ (List.mem_of_getElem? (i := 42) rfl))) (mvT hZ (hw _ (List.mem_of_getElem? (i := 43) rfl))) (notFace_of_selects (args := #[]) (mvT hZ (hw _ (List.mem_of_getElem? (i := 45) rfl)))) (mvT hZ (hw _ (List.mem_of_getElem? (i := 45) rfl))) (mvT hZ (hw _ (List.mem_of_getElem? (i := 44) rfl))) (by decide) (backOf (W := 0) (own_rmslot l Z a0 hw [] o' b7 0 q2 (.ref vv) T30.heap n0 Z30 Bp30) hZ (hw _ (List.mem_of_getElem? (i := 46) rfl)) (hw _ (List.mem_of_getElem? (i := 2) rfl)) (by decide) (by decide)) q35a q35c (g := (mkF m 232 #[.val (.int q1), .val (.int q2), .val (.int q3), .val (.long j1), .second, .val (.long j2), .second, .val (.int b7), .val (.int b8), .val (.int (1 : Int32)), .val (.int b10), .val (.int b11), .val (.int b12), .val (.ref o), .val (.ref o'), .val (.ref vv), .val (.int (1 : Int32))] [(.ref o')])) rfl (by rw [hml]; rfl) (Steps.refl _) (argsL := []) (rest := []) (lenOf own_pd5 rfl) rfl (by show 2 * 0 + _ ≤ _; exact Nat.le_of_eq rfl) (hb hby at_232) (fun _ _ => ⟨rfl, e34, (by decide : 4 + 0 ≤ _), (by decide : 12 + 0 ≤ _)⟩)
        dsimp only [Pt.U, Pt.locs, Pt.cells, Pt.slots] at X35 l35 y35 z35 st35 hQ35
        subst l35 y35 z35
        obtain ⟨rfl, N35q, e35⟩ := hQ35
        have N35 := Fr.app N34 N35q
        refine own_by (fun t k => st35.trans k) ?_
        show own_Go p.tables e below K (T35.setTop (mkF m 235 #[.val (.int q1), .val (.int q2), .val (.int q3), .val (.long j1), .second, .val (.long j2), .second, .val (.int b7), .val (.int b8), .val (.int (1 : Int32)), .val (.int b10), .val (.int b11), .val (.int b12), .val (.ref o), .val (.ref o'), .val (.ref vv), .val (.int (1 : Int32))] [(.int q2)]))
        refine own_by (fun t k => XS.iloadN X35.here hx rfl (hb hby at_235) rfl k) ?_
        show own_Go p.tables e below K (T35.setTop (mkF m 236 #[.val (.int q1), .val (.int q2), .val (.int q3), .val (.long j1), .second, .val (.long j2), .second, .val (.int b7), .val (.int b8), .val (.int (1 : Int32)), .val (.int b10), .val (.int b11), .val (.int b12), .val (.ref o), .val (.ref o'), .val (.ref vv), .val (.int (1 : Int32))] [(.int q2), (.int q2)]))
        have hc236 : q2 = q2 := rfl
        refine own_by (fun t k => XS.icmpNo X35.here hx rfl (hb hby at_236) rfl (teq hc236).2 k) ?_
        show own_Go p.tables e below K (T35.setTop (mkF m 239 #[.val (.int q1), .val (.int q2), .val (.int q3), .val (.long j1), .second, .val (.long j2), .second, .val (.int b7), .val (.int b8), .val (.int (1 : Int32)), .val (.int b10), .val (.int b11), .val (.int b12), .val (.ref o), .val (.ref o'), .val (.ref vv), .val (.int (1 : Int32))] []))
        refine own_by (fun t k => XS.iload X35.here hx rfl (hb hby at_239) rfl k) ?_
        show own_Go p.tables e below K (T35.setTop (mkF m 241 #[.val (.int q1), .val (.int q2), .val (.int q3), .val (.long j1), .second, .val (.long j2), .second, .val (.int b7), .val (.int b8), .val (.int (1 : Int32)), .val (.int b10), .val (.int b11), .val (.int b12), .val (.ref o), .val (.ref o'), .val (.ref vv), .val (.int (1 : Int32))] [(.int (1 : Int32))]))
        have hc241 : ¬ ((1 : Int32) = (0 : Int32)) := by decide
        refine own_by (fun t k => XS.ifNo X35.here hx rfl (hb hby at_241) rfl ((if0 _ _).trans (feq hc241).1) k) ?_
        show own_Go p.tables e below K (T35.setTop (mkF m 244 #[.val (.int q1), .val (.int q2), .val (.int q3), .val (.long j1), .second, .val (.long j2), .second, .val (.int b7), .val (.int b8), .val (.int (1 : Int32)), .val (.int b10), .val (.int b11), .val (.int b12), .val (.ref o), .val (.ref o'), .val (.ref vv), .val (.int (1 : Int32))] []))
        refine own_by (fun t k => XS.iconst X35.here hx rfl (hb hby at_244) k) ?_
        show own_Go p.tables e below K (T35.setTop (mkF m 245 #[.val (.int q1), .val (.int q2), .val (.int q3), .val (.long j1), .second, .val (.long j2), .second, .val (.int b7), .val (.int b8), .val (.int (1 : Int32)), .val (.int b10), .val (.int b11), .val (.int b12), .val (.ref o), .val (.ref o'), .val (.ref vv), .val (.int (1 : Int32))] [(.int (1 : Int32))]))
        refine own_by (fun t k => XS.goto X35.here hx rfl (pc0 := 245) (pc' := 249) rfl (hb hby at_245) (by decide) (by decide) k) ?_
        show own_Go p.tables e below K (T35.setTop (mkF m 249 #[.val (.int q1), .val (.int q2), .val (.int q3), .val (.long j1), .second, .val (.long j2), .second, .val (.int b7), .val (.int b8), .val (.int (1 : Int32)), .val (.int b10), .val (.int b11), .val (.int b12), .val (.ref o), .val (.ref o'), .val (.ref vv), .val (.int (1 : Int32))] [(.int (1 : Int32))]))
        exact own_retZ X35 hx (t := .boolean) hret (by simp) (hb hby at_249) (hK (some (.int (1 : Int32))) X35 (fun h => by rw [hret] at h; cases h) (⟨rfl, N35⟩) (by decide) (by decide))
    have J142 : ∀ (T' : State) (L' : List Loc) (o : Addr) (o' : Addr) (ce : Value), Stand p l e room_1 s m #[(.int q1), (.int q2), (.int q3), (.long j1), (.long j2)] below meth c T' L' 3 10 → Fr n0 L' → n0 ≤ T'.heap.size → Old Z n0 T'.heap → n0 ≤ o → n0 ≤ o' → o ≠ o' → own_B Z T'.heap o b7 b8 q2 ce → own_B Z T'.heap o' b10 0 0 .null → own_ce b9 ce → own_Go p.tables e below K (T'.setTop (mkF m 142 #[.val (.int q1), .val (.int q2), .val (.int q3), .val (.long j1), .second, .val (.long j2), .second, .val (.int b7), .val (.int b8), .val (.int b9), .val (.int b10), .val (.int b11), .val (.int b12), .val (.ref o), .val (.ref o'), .unset, .unset] [])) := by
      intro T' L' o o' ce X' N' Z' O' go go' hne B B' hce
      show own_Go p.tables e below K (T'.setTop (mkF m 142 #[.val (.int q1), .val (.int q2), .val (.int q3), .val (.long j1), .second, .val (.long j2), .second, .val (.int b7), .val (.int b8), .val (.int b9), .val (.int b10), .val (.int b11), .val (.int b12), .val (.ref o), .val (.ref o'), .unset, .unset] []))
      refine own_by (fun t k => XS.aload X'.here hx rfl (hb hby at_142) rfl rfl k) ?_
      show own_Go p.tables e below K (T'.setTop (mkF m 144 #[.val (.int q1), .val (.int q2), .val (.int q3), .val (.long j1), .second, .val (.long j2), .second, .val (.int b7), .val (.int b8), .val (.int b9), .val (.int b10), .val (.int b11), .val (.int b12), .val (.ref o), .val (.ref o'), .unset, .unset] [(.ref o')]))
      refine own_by (fun t k => XS.iloadN X'.here hx rfl (hb hby at_144) rfl k) ?_
      show own_Go p.tables e below K (T'.setTop (mkF m 145 #[.val (.int q1), .val (.int q2), .val (.int q3), .val (.long j1), .second, .val (.long j2), .second, .val (.int b7), .val (.int b8), .val (.int b9), .val (.int b10), .val (.int b11), .val (.int b12), .val (.ref o), .val (.ref o'), .unset, .unset] [(.int q3), (.ref o')]))
      refine own_by (fun t k => XS.iload X'.here hx rfl (hb hby at_145) rfl k) ?_
      show own_Go p.tables e below K (T'.setTop (mkF m 147 #[.val (.int q1), .val (.int q2), .val (.int q3), .val (.long j1), .second, .val (.long j2), .second, .val (.int b7), .val (.int b8), .val (.int b9), .val (.int b10), .val (.int b11), .val (.int b12), .val (.ref o), .val (.ref o'), .unset, .unset] [(.int b11), (.int q3), (.ref o')]))
      obtain ⟨cq36, kq36, q36a, q36b, q36c⟩ := isOf hZ rfl B'.1
      obtain ⟨_, _, ⟨T36, L36, k36, n36⟩, -, X36, ⟨Lc36, hQ36, l36, y36, z36⟩, st36⟩ := X'.virtualBack hx (y := (⟨"com/example/minilingua/minilingua/lang/adpl/Binding", "placeInSlot", "(IZ)V"⟩ : MethodName)) (z := (⟨"com/example/minilingua/minilingua/lang/adpl/Binding", "placeInSlot", "(IZ)V"⟩ : MethodName)) hown (mvT hZ (hw _ (List.mem_of_getElem? (i := 9) rfl))) (mvT hZ (hw _ (List.mem_of_getElem? (i := 10) rfl))) (notFace_of_selects (args := #[]) (mvT hZ (hw _ (List.mem_of_getElem? (i := 12) rfl)))) (mvT hZ (hw _ (List.mem_of_getElem? (i := 12) rfl))) (mvT hZ (hw _ (List.mem_of_getElem? (i := 11) rfl))) (by decide) (backOf (W := 0) (own_rmslotW l Z a0 hw [] o' q3 b11 b10 0 0 .null T'.heap n0 Z' B' go') hZ (hw _ (List.mem_of_getElem? (i := 13) rfl)) (hw _ (List.mem_of_getElem? (i := 2) rfl)) (by decide) (by decide)) q36a q36c (g := (mkF m 147 #[.val (.int q1), .val (.int q2), .val (.int q3), .val (.long j1), .second, .val (.long j2), .second, .val (.int b7), .val (.int b8), .val (.int b9), .val (.int b10), .val (.int b11), .val (.int b12), .val (.ref o), .val (.ref o'), .unset, .unset] [(.int b11), (.int q3), (.ref o')])) rfl (by rw [hml]; rfl) (Steps.refl _) (argsL := [(.int q3), (.int b11)]) (rest := []) (lenOf own_pd6 rfl) rfl (by show 2 * 0 + _ ≤ _; exact Nat.le_of_eq rfl) (hb hby at_147) (fun _ _ => ⟨rfl, rfl, (by decide : 3 + 0 ≤ _), (by decide : 10 + 0 ≤ _)⟩)
      dsimp only [Pt.U, Pt.locs, Pt.cells, Pt.slots] at X36 l36 y36 z36 st36 hQ36
      subst l36 y36 z36
      obtain ⟨rfl, N36q, Kp36, Bp36⟩ := hQ36
      have N36 := Fr.app N' N36q
      refine own_by (fun t k => st36.trans k) ?_
      have Bk36 := B.keep Kp36 (ninS hne nin0)
      have Z36 := Nat.le_trans Z' Kp36.1
      have O36 := O'.keep Kp36 (allS go' (all0))
      rw [own_nb hb11] at Bp36
      show own_Go p.tables e below K (T36.setTop (mkF m 150 #[.val (.int q1), .val (.int q2), .val (.int q3), .val (.long j1), .second, .val (.long j2), .second, .val (.int b7), .val (.int b8), .val (.int b9), .val (.int b10), .val (.int b11), .val (.int b12), .val (.ref o), .val (.ref o'), .unset, .unset] []))
      refine own_by (fun t k => XS.iload X36.here hx rfl (hb hby at_150) rfl k) ?_
      show own_Go p.tables e below K (T36.setTop (mkF m 152 #[.val (.int q1), .val (.int q2), .val (.int q3), .val (.long j1), .second, .val (.long j2), .second, .val (.int b7), .val (.int b8), .val (.int b9), .val (.int b10), .val (.int b11), .val (.int b12), .val (.ref o), .val (.ref o'), .unset, .unset] [(.int b12)]))
      by_cases hc152 : b12 = (0 : Int32)
      · refine own_by (fun t k => XS.ifYes X36.here hx rfl (pc0 := 152) (pc' := 166) rfl (hb hby at_152) rfl ((if0 _ _).trans (teq hc152).1) (by decide) (by decide) k) ?_
        exact J166 _ _ o o' _ _ (own_more X36 (by decide) (by decide)) N36 Z36 O36 go go' hne Bk36 Bp36 hce
      · refine own_by (fun t k => XS.ifNo X36.here hx rfl (hb hby at_152) rfl ((if0 _ _).trans (feq hc152).1) k) ?_
        show own_Go p.tables e below K (T36.setTop (mkF m 155 #[.val (.int q1), .val (.int q2), .val (.int q3), .val (.long j1), .second, .val (.long j2), .second, .val (.int b7), .val (.int b8), .val (.int b9), .val (.int b10), .val (.int b11), .val (.int b12), .val (.ref o), .val (.ref o'), .unset, .unset] []))
        refine own_by (fun t k => XS.aload X36.here hx rfl (hb hby at_155) rfl rfl k) ?_
        show own_Go p.tables e below K (T36.setTop (mkF m 157 #[.val (.int q1), .val (.int q2), .val (.int q3), .val (.long j1), .second, .val (.long j2), .second, .val (.int b7), .val (.int b8), .val (.int b9), .val (.int b10), .val (.int b11), .val (.int b12), .val (.ref o), .val (.ref o'), .unset, .unset] [(.ref o')]))
        refine own_by (fun t k => XS.lload X36.here hx rfl (hb hby at_157) rfl k) ?_
        show own_Go p.tables e below K (T36.setTop (mkF m 159 #[.val (.int q1), .val (.int q2), .val (.int q3), .val (.long j1), .second, .val (.long j2), .second, .val (.int b7), .val (.int b8), .val (.int b9), .val (.int b10), .val (.int b11), .val (.int b12), .val (.ref o), .val (.ref o'), .unset, .unset] [(.long j2), (.ref o')]))
        refine own_by (fun t k => X36.ldc2Long hx hown (mvT hZ (hw _ (List.mem_of_getElem? (i := 52) rfl))) (g := (mkF m 159 #[.val (.int q1), .val (.int q2), .val (.int q3), .val (.long j1), .second, .val (.long j2), .second, .val (.int b7), .val (.int b8), .val (.int b9), .val (.int b10), .val (.int b11), .val (.int b12), .val (.ref o), .val (.ref o'), .unset, .unset] [(.long j2), (.ref o')])) rfl (hb hby at_159) _ k) ?_
        show own_Go p.tables e below K (T36.setTop (mkF m 162 #[.val (.int q1), .val (.int q2), .val (.int q3), .val (.long j1), .second, .val (.long j2), .second, .val (.int b7), .val (.int b8), .val (.int b9), .val (.int b10), .val (.int b11), .val (.int b12), .val (.ref o), .val (.ref o'), .unset, .unset] [(.long (9223372036854775807 : Int64)), (.long j2), (.ref o')]))
        refine own_by (fun t k => XS.land X36.here hx rfl (hb hby at_162) rfl k) ?_
        show own_Go p.tables e below K (T36.setTop (mkF m 163 #[.val (.int q1), .val (.int q2), .val (.int q3), .val (.long j1), .second, .val (.long j2), .second, .val (.int b7), .val (.int b8), .val (.int b9), .val (.int b10), .val (.int b11), .val (.int b12), .val (.ref o), .val (.ref o'), .unset, .unset] [(.long (j2 &&& (9223372036854775807 : Int64))), (.ref o')]))
        obtain ⟨cq37, kq37, q37a, q37b, q37c⟩ := isOf hZ rfl Bp36.1
        obtain ⟨_, _, ⟨T37, L37, k37, n37⟩, -, X37, ⟨Lc37, hQ37, l37, y37, z37⟩, st37⟩ := X36.virtualBack hx (y := (⟨"com/example/minilingua/minilingua/lang/adpl/Binding", "placeInCell", "(J)V"⟩ : MethodName)) (z := (⟨"com/example/minilingua/minilingua/lang/adpl/Binding", "placeInCell", "(J)V"⟩ : MethodName)) hown (mvT hZ (hw _ (List.mem_of_getElem? (i := 53) rfl))) (mvT hZ (hw _ (List.mem_of_getElem? (i := 54) rfl))) (notFace_of_selects (args := #[]) (mvT hZ (hw _ (List.mem_of_getElem? (i := 56) rfl)))) (mvT hZ (hw _ (List.mem_of_getElem? (i := 56) rfl))) (mvT hZ (hw _ (List.mem_of_getElem? (i := 55) rfl))) (by decide) (backOf (W := 0) (own_rmcellW l Z a0 hw [] o' (j2 &&& (9223372036854775807 : Int64)) kp b10 b11 q3 .null T36.heap n0 Z36 Bp36 go' (S0.ext O36.2)) hZ (hw _ (List.mem_of_getElem? (i := 57) rfl)) (hw _ (List.mem_of_getElem? (i := 2) rfl)) (by decide) (by decide)) q37a q37c (g := (mkF m 163 #[.val (.int q1), .val (.int q2), .val (.int q3), .val (.long j1), .second, .val (.long j2), .second, .val (.int b7), .val (.int b8), .val (.int b9), .val (.int b10), .val (.int b11), .val (.int b12), .val (.ref o), .val (.ref o'), .unset, .unset] [(.long (j2 &&& (9223372036854775807 : Int64))), (.ref o')])) rfl (by rw [hml]; rfl) (Steps.refl _) (argsL := [(.long (j2 &&& (9223372036854775807 : Int64)))]) (rest := []) (lenOf own_pd7 rfl) rfl (by show 2 * 0 + _ ≤ _; exact Nat.le_of_eq rfl) (hb hby at_163) (fun _ _ => ⟨rfl, rfl, (by decide : 3 + 1 ≤ _), (by decide : 10 + 2 ≤ _)⟩)
        dsimp only [Pt.U, Pt.locs, Pt.cells, Pt.slots] at X37 l37 y37 z37 st37 hQ37
        subst l37 y37 z37
        obtain ⟨rfl, N37q, Kp37, r37, Bp37⟩ := hQ37
        have N37 := Fr.app N36 N37q
        refine own_by (fun t k => st37.trans k) ?_
        have Bk37 := Bk36.keep Kp37 (ninS hne nin0)
        have Z37 := Nat.le_trans Z36 Kp37.1
        have O37 := O36.keep Kp37 (allS go' (all0))
        exact J166 _ _ o o' _ _ (own_more X37 (by decide) (by decide)) N37 Z37 O37 go go' hne Bk37 Bp37 hce
    have J123 : ∀ (T' : State) (L' : List Loc) (o : Addr) (ce : Value), Stand p l e room_1 s m #[(.int q1), (.int q2), (.int q3), (.long j1), (.long j2)] below meth c T' L' 2 6 → Fr n0 L' → n0 ≤ T'.heap.size → Old Z n0 T'.heap → n0 ≤ o → own_B Z T'.heap o b7 b8 q2 ce → own_ce b9 ce → own_Go p.tables e below K (T'.setTop (mkF m 123 #[.val (.int q1), .val (.int q2), .val (.int q3), .val (.long j1), .second, .val (.long j2), .second, .val (.int b7), .val (.int b8), .val (.int b9), .val (.int b10), .val (.int b11), .val (.int b12), .val (.ref o), .unset, .unset, .unset] [])) := by
      intro T' L' o ce X' N' Z' O' go B hce
      show own_Go p.tables e below K (T'.setTop (mkF m 123 #[.val (.int q1), .val (.int q2), .val (.int q3), .val (.long j1), .second, .val (.long j2), .second, .val (.int b7), .val (.int b8), .val (.int b9), .val (.int b10), .val (.int b11), .val (.int b12), .val (.ref o), .unset, .unset, .unset] []))
      obtain ⟨T38, h38, X38, e38, E38, A38, D38, -, st38⟩ := newO X' hx hZ hown (hw _ (List.mem_of_getElem? (i := 0) rfl)) (hw _ (List.mem_of_getElem? (i := 1) rfl)) (hw _ (List.mem_of_getElem? (i := 2) rfl)) rfl (g := (mkF m 123 #[.val (.int q1), .val (.int q2), .val (.int q3), .val (.long j1), .second, .val (.long j2), .second, .val (.int b7), .val (.int b8), .val (.int b9), .val (.int b10), .val (.int b11), .val (.int b12), .val (.ref o), .unset, .unset, .unset] [])) rfl (hb hby at_123) (by decide) (by decide)
      obtain ⟨b38, g38⟩ : ∃ z, z = T'.heap.size := ⟨_, rfl⟩
      rw [← g38] at A38 D38 st38
      refine own_by st38 ?_
      have gn_b38 : n0 ≤ b38 := Nat.le_trans Z' (Nat.le_of_eq g38.symm)
      have ne_o_b38 : o ≠ b38 := Nat.ne_of_lt (Nat.lt_of_lt_of_le B.1.lt (Nat.le_of_eq g38.symm))
      have Ex38_o := B.1.ext E38
      have Z38 := Nat.le_trans Z' E38.1
      have O38 := O'.ext E38
      have F38_slot_b38 : Fld Z h38 b38 "com/example/minilingua/minilingua/lang/adpl/Binding" "slot" "I" (.int (0 : Int32)) := D38 (Or.inl (hw _ (List.mem_of_getElem? (i := 15) rfl))) (ty := .int) (by decide)
      have F38_local_b38 : Fld Z h38 b38 "com/example/minilingua/minilingua/lang/adpl/Binding" "local" "Z" (.int (0 : Int32)) := D38 (Or.inl (hw _ (List.mem_of_getElem? (i := 17) rfl))) (ty := .boolean) (by decide)
      have F38_assigned_b38 : Fld Z h38 b38 "com/example/minilingua/minilingua/lang/adpl/Binding" "assigned" "Z" (.int (0 : Int32)) := D38 (Or.inl (hw _ (List.mem_of_getElem? (i := 24) rfl))) (ty := .boolean) (by decide)
      have F38_cell_b38 : Fld Z h38 b38 "com/example/minilingua/minilingua/lang/adpl/Binding" "cell" "Lcom/example/minilingua/minilingua/lang/adpl/Value;" .null := D38 (Or.inl (hw _ (List.mem_of_getElem? (i := 26) rfl))) (ty := (.object "com/example/minilingua/minilingua/lang/adpl/Value")) (by decide)
      have Be38 := B.ext E38
      have Bn38 : own_B Z h38 b38 0 0 0 .null := ⟨A38, F38_assigned_b38, F38_local_b38, F38_slot_b38, F38_cell_b38, rfl⟩
      show own_Go p.tables e below K (T38.setTop (mkF m 126 #[.val (.int q1), .val (.int q2), .val (.int q3), .val (.long j1), .second, .val (.long j2), .second, .val (.int b7), .val (.int b8), .val (.int b9), .val (.int b10), .val (.int b11), .val (.int b12), .val (.ref o), .unset, .unset, .unset] [(.ref b38)]))
      refine own_by (fun t k => XS.dup X38.here hx rfl (hb hby at_126) rfl rfl k) ?_
      show own_Go p.tables e below K (T38.setTop (mkF m 127 #[.val (.int q1), .val (.int q2), .val (.int q3), .val (.long j1), .second, .val (.long j2), .second, .val (.int b7), .val (.int b8), .val (.int b9), .val (.int b10), .val (.int b11), .val (.int b12), .val (.ref o), .unset, .unset, .unset] [(.ref b38), (.ref b38)]))
      obtain ⟨_, _, ⟨T39, L39, k39, n39⟩, -, X39, ⟨Lc39, hQ39, l39, y39, z39⟩, st39⟩ := X38.specialBack hx (y := (⟨"com/example/minilingua/minilingua/lang/adpl/Binding", "<init>", "()V"⟩ : MethodName)) rfl hown (mvT hZ (hw _ (List.mem_of_getElem? (i := 3) rfl))) (mvT hZ (hw _ (List.mem_of_getElem? (i := 4) rfl))) (mvT hZ (hw _ (List.mem_of_getElem? (i := 5) rfl))) (by decide) (backOf (W := 1) (own_rmI l Z a0 hw [] b38 h38 n0 Z38) hZ (hw _ (List.mem_of_getElem? (i := 5) rfl)) (hw _ (List.mem_of_getElem? (i := 2) rfl)) (by decide) (by decide)) (g := (mkF m 127 #[.val (.int q1), .val (.int q2), .val (.int q3), .val (.long j1), .second, .val (.long j2), .second, .val (.int b7), .val (.int b8), .val (.int b9), .val (.int b10), .val (.int b11), .val (.int b12), .val (.ref o), .unset, .unset, .unset] [(.ref b38), (.ref b38)])) rfl (by rw [hml]; rfl) (Steps.refl _) (a := b38) (argsL := []) (rest := [(.ref b38)]) (lenOf own_pd8 rfl) rfl (by show 2 * 0 + _ ≤ _; exact Nat.le_of_eq rfl) (hb hby at_127) (fun _ _ => ⟨rfl, e38, (by decide : 3 + 0 ≤ _), (by decide : 10 + 0 ≤ _)⟩)
      dsimp only [Pt.U, Pt.locs, Pt.cells, Pt.slots] at X39 l39 y39 z39 st39 hQ39
      subst l39 y39 z39
      obtain ⟨rfl, N39q, e39⟩ := hQ39
      have N39 := Fr.app N' N39q
      refine own_by (fun t k => st39.trans k) ?_
      show own_Go p.tables e below K (T39.setTop (mkF m 130 #[.val (.int q1), .val (.int q2), .val (.int q3), .val (.long j1), .second, .val (.long j2), .second, .val (.int b7), .val (.int b8), .val (.int b9), .val (.int b10), .val (.int b11), .val (.int b12), .val (.ref o), .unset, .unset, .unset] [(.ref b38)]))
      refine own_by (fun t k => XS.astore X39.here hx rfl (hb hby at_130) rfl rfl (l' := #[.val (.int q1), .val (.int q2), .val (.int q3), .val (.long j1), .second, .val (.long j2), .second, .val (.int b7), .val (.int b8), .val (.int b9), .val (.int b10), .val (.int b11), .val (.int b12), .val (.ref o), .val (.ref b38), .unset, .unset]) rfl k) ?_
      show own_Go p.tables e below K (T39.setTop (mkF m 132 #[.val (.int q1), .val (.int q2), .val (.int q3), .val (.long j1), .second, .val (.long j2), .second, .val (.int b7), .val (.int b8), .val (.int b9), .val (.int b10), .val (.int b11), .val (.int b12), .val (.ref o), .val (.ref b38), .unset, .unset] []))
      refine own_by (fun t k => XS.iload X39.here hx rfl (hb hby at_132) rfl k) ?_
      show own_Go p.tables e below K (T39.setTop (mkF m 134 #[.val (.int q1), .val (.int q2), .val (.int q3), .val (.long j1), .second, .val (.long j2), .second, .val (.int b7), .val (.int b8), .val (.int b9), .val (.int b10), .val (.int b11), .val (.int b12), .val (.ref o), .val (.ref b38), .unset, .unset] [(.int b10)]))
      by_cases hc134 : b10 = 0
      · refine own_by (fun t k => XS.ifYes X39.here hx rfl (pc0 := 134) (pc' := 142) rfl (hb hby at_134) rfl ((if0 _ _).trans (teq hc134).1) (by decide) (by decide) k) ?_
        have Bq := Bn38
        exact J142 _ _ o b38 _ (own_more X39 (by decide) (by decide)) N39 (by rw [e39]; exact Z38) (by rw [e39]; exact O38) go gn_b38 ne_o_b38 (by rw [e39]; exact Be38) (by rw [e39]; exact (by rw [hc134]; exact Bn38)) hce
      · refine own_by (fun t k => XS.ifNo X39.here hx rfl (hb hby at_134) rfl ((if0 _ _).trans (feq hc134).1) k) ?_
        show own_Go p.tables e below K (T39.setTop (mkF m 137 #[.val (.int q1), .val (.int q2), .val (.int q3), .val (.long j1), .second, .val (.long j2), .second, .val (.int b7), .val (.int b8), .val (.int b9), .val (.int b10), .val (.int b11), .val (.int b12), .val (.ref o), .val (.ref b38), .unset, .unset] []))
        refine own_by (fun t k => XS.aload X39.here hx rfl (hb hby at_137) rfl rfl k) ?_
        show own_Go p.tables e below K (T39.setTop (mkF m 139 #[.val (.int q1), .val (.int q2), .val (.int q3), .val (.long j1), .second, .val (.long j2), .second, .val (.int b7), .val (.int b8), .val (.int b9), .val (.int b10), .val (.int b11), .val (.int b12), .val (.ref o), .val (.ref b38), .unset, .unset] [(.ref b38)]))
        obtain ⟨cq40, kq40, q40a, q40b, q40c⟩ := isOf hZ e39 Bn38.1
        obtain ⟨_, _, ⟨T40, L40, k40, n40⟩, -, X40, ⟨Lc40, hQ40, l40, y40, z40⟩, st40⟩ := X39.virtualBack hx (y := (⟨"com/example/minilingua/minilingua/lang/adpl/Binding", "markAssigned", "()V"⟩ : MethodName)) (z := (⟨"com/example/minilingua/minilingua/lang/adpl/Binding", "markAssigned", "()V"⟩ : MethodName)) hown (mvT hZ (hw _ (List.mem_of_getElem? (i := 47) rfl))) (mvT hZ (hw _ (List.mem_of_getElem? (i := 48) rfl))) (notFace_of_selects (args := #[]) (mvT hZ (hw _ (List.mem_of_getElem? (i := 50) rfl)))) (mvT hZ (hw _ (List.mem_of_getElem? (i := 50) rfl))) (mvT hZ (hw _ (List.mem_of_getElem? (i := 49) rfl))) (by decide) (backOf (W := 0) (own_rmmark l Z a0 hw [] b38 0 0 0 .null h38 n0 Z38 Bn38 gn_b38) hZ (hw _ (List.mem_of_getElem? (i := 51) rfl)) (hw _ (List.mem_of_getElem? (i := 2) rfl)) (by decide) (by decide)) q40a q40c (g := (mkF m 139 #[.val (.int q1), .val (.int q2), .val (.int q3), .val (.long j1), .second, .val (.long j2), .second, .val (.int b7), .val (.int b8), .val (.int b9), .val (.int b10), .val (.int b11), .val (.int b12), .val (.ref o), .val (.ref b38), .unset, .unset] [(.ref b38)])) rfl (by rw [hml]; rfl) (Steps.refl _) (argsL := []) (rest := []) (lenOf own_pd8 rfl) rfl (by show 2 * 0 + _ ≤ _; exact Nat.le_of_eq rfl) (hb hby at_139) (fun _ _ => ⟨rfl, e39, (by decide : 3 + 0 ≤ _), (by decide : 10 + 0 ≤ _)⟩)
        dsimp only [Pt.U, Pt.locs, Pt.cells, Pt.slots] at X40 l40 y40 z40 st40 hQ40
        subst l40 y40 z40
        obtain ⟨rfl, N40q, Kp40, Bp40⟩ := hQ40
        have N40 := Fr.app N39 N40q
        refine own_by (fun t k => st40.trans k) ?_
        have Bk40 := Be38.keep Kp40 (ninS ne_o_b38 nin0)
        have Z40 := Nat.le_trans Z38 Kp40.1
        have O40 := O38.keep Kp40 (allS gn_b38 (all0))
        exact J142 _ _ o b38 _ (own_more X40 (by decide) (by decide)) N40 Z40 O40 go gn_b38 ne_o_b38 Bk40 (by rcases hb10 with q | q; exact absurd q hc134; rw [q]; exact Bp40) hce
    have J100 : ∀ (T' : State) (L' : List Loc) (o : Addr), Stand p l e room_1 s m #[(.int q1), (.int q2), (.int q3), (.long j1), (.long j2)] below meth c T' L' 1 4 → Fr n0 L' → n0 ≤ T'.heap.size → Old Z n0 T'.heap → n0 ≤ o → own_B Z T'.heap o b7 0 0 .null → own_Go p.tables e below K (T'.setTop (mkF m 100 #[.val (.int q1), .val (.int q2), .val (.int q3), .val (.long j1), .second, .val (.long j2), .second, .val (.int b7), .val (.int b8), .val (.int b9), .val (.int b10), .val (.int b11), .val (.int b12), .val (.ref o), .unset, .unset, .unset] [])) := by
      intro T' L' o X' N' Z' O' go B
      show own_Go p.tables e below K (T'.setTop (mkF m 100 #[.val (.int q1), .val (.int q2), .val (.int q3), .val (.long j1), .second, .val (.long j2), .second, .val (.int b7), .val (.int b8), .val (.int b9), .val (.int b10), .val (.int b11), .val (.int b12), .val (.ref o), .unset, .unset, .unset] []))
      refine own_by (fun t k => XS.aload X'.here hx rfl (hb hby at_100) rfl rfl k) ?_
      show own_Go p.tables e below K (T'.setTop (mkF m 102 #[.val (.int q1), .val (.int q2), .val (.int q3), .val (.long j1), .second, .val (.long j2), .second, .val (.int b7), .val (.int b8), .val (.int b9), .val (.int b10), .val (.int b11), .val (.int b12), .val (.ref o), .unset, .unset, .unset] [(.ref o)]))
      refine own_by (fun t k => XS.iloadN X'.here hx rfl (hb hby at_102) rfl k) ?_
      show own_Go p.tables e below K (T'.setTop (mkF m 103 #[.val (.int q1), .val (.int q2), .val (.int q3), .val (.long j1), .second, .val (.long j2), .second, .val (.int b7), .val (.int b8), .val (.int b9), .val (.int b10), .val (.int b11), .val (.int b12), .val (.ref o), .unset, .unset, .unset] [(.int q2), (.ref o)]))
      refine own_by (fun t k => XS.iload X'.here hx rfl (hb hby at_103) rfl k) ?_
      show own_Go p.tables e below K (T'.setTop (mkF m 105 #[.val (.int q1), .val (.int q2), .val (.int q3), .val (.long j1), .second, .val (.long j2), .second, .val (.int b7), .val (.int b8), .val (.int b9), .val (.int b10), .val (.int b11), .val (.int b12), .val (.ref o), .unset, .unset, .unset] [(.int b8), (.int q2), (.ref o)]))
      obtain ⟨cq41, kq41, q41a, q41b, q41c⟩ := isOf hZ rfl B.1
      obtain ⟨_, _, ⟨T41, L41, k41, n41⟩, -, X41, ⟨Lc41, hQ41, l41, y41, z41⟩, st41⟩ := X'.virtualBack hx (y := (⟨"com/example/minilingua/minilingua/lang/adpl/Binding", "placeInSlot", "(IZ)V"⟩ : MethodName)) (z := (⟨"com/example/minilingua/minilingua/lang/adpl/Binding", "placeInSlot", "(IZ)V"⟩ : MethodName)) hown (mvT hZ (hw _ (List.mem_of_getElem? (i := 9) rfl))) (mvT hZ (hw _ (List.mem_of_getElem? (i := 10) rfl))) (notFace_of_selects (args := #[]) (mvT hZ (hw _ (List.mem_of_getElem? (i := 12) rfl)))) (mvT hZ (hw _ (List.mem_of_getElem? (i := 12) rfl))) (mvT hZ (hw _ (List.mem_of_getElem? (i := 11) rfl))) (by decide) (backOf (W := 0) (own_rmslotW l Z a0 hw [] o q2 b8 b7 0 0 .null T'.heap n0 Z' B go) hZ (hw _ (List.mem_of_getElem? (i := 13) rfl)) (hw _ (List.mem_of_getElem? (i := 2) rfl)) (by decide) (by decide)) q41a q41c (g := (mkF m 105 #[.val (.int q1), .val (.int q2), .val (.int q3), .val (.long j1), .second, .val (.long j2), .second, .val (.int b7), .val (.int b8), .val (.int b9), .val (.int b10), .val (.int b11), .val (.int b12), .val (.ref o), .unset, .unset, .unset] [(.int b8), (.int q2), (.ref o)])) rfl (by rw [hml]; rfl) (Steps.refl _) (argsL := [(.int q2), (.int b8)]) (rest := []) (lenOf own_pd6 rfl) rfl (by show 2 * 0 + _ ≤ _; exact Nat.le_of_eq rfl) (hb hby at_105) (fun _ _ => ⟨rfl, rfl, (by decide : 1 + 0 ≤ _), (by decide : 4 + 0 ≤ _)⟩)
      dsimp only [Pt.U, Pt.locs, Pt.cells, Pt.slots] at X41 l41 y41 z41 st41 hQ41
      subst l41 y41 z41
      obtain ⟨rfl, N41q, Kp41, Bp41⟩ := hQ41
      have N41 := Fr.app N' N41q
      refine own_by (fun t k => st41.trans k) ?_
      have Z41 := Nat.le_trans Z' Kp41.1
      have O41 := O'.keep Kp41 (allS go (all0))
      rw [own_nb hb8] at Bp41
      show own_Go p.tables e below K (T41.setTop (mkF m 108 #[.val (.int q1), .val (.int q2), .val (.int q3), .val (.long j1), .second, .val (.long j2), .second, .val (.int b7), .val (.int b8), .val (.int b9), .val (.int b10), .val (.int b11), .val (.int b12), .val (.ref o), .unset, .unset, .unset] []))
      refine own_by (fun t k => XS.iload X41.here hx rfl (hb hby at_108) rfl k) ?_
      show own_Go p.tables e below K (T41.setTop (mkF m 110 #[.val (.int q1), .val (.int q2), .val (.int q3), .val (.long j1), .second, .val (.long j2), .second, .val (.int b7), .val (.int b8), .val (.int b9), .val (.int b10), .val (.int b11), .val (.int b12), .val (.ref o), .unset, .unset, .unset] [(.int b9)]))
      by_cases hc110 : b9 = 0
      · refine own_by (fun t k => XS.ifYes X41.here hx rfl (pc0 := 110) (pc' := 123) rfl (hb hby at_110) rfl ((if0 _ _).trans (teq hc110).1) (by decide) (by decide) k) ?_
        have hce_ : own_ce b9 .null := Or.inl ⟨hc110, rfl⟩
        exact J123 _ _ o _ (own_more X41 (by decide) (by decide)) N41 Z41 O41 go Bp41 hce_
      · refine own_by (fun t k => XS.ifNo X41.here hx rfl (hb hby at_110) rfl ((if0 _ _).trans (feq hc110).1) k) ?_
        show own_Go p.tables e below K (T41.setTop (mkF m 113 #[.val (.int q1), .val (.int q2), .val (.int q3), .val (.long j1), .second, .val (.long j2), .second, .val (.int b7), .val (.int b8), .val (.int b9), .val (.int b10), .val (.int b11), .val (.int b12), .val (.ref o), .unset, .unset, .unset] []))
        refine own_by (fun t k => XS.aload X41.here hx rfl (hb hby at_113) rfl rfl k) ?_
        show own_Go p.tables e below K (T41.setTop (mkF m 115 #[.val (.int q1), .val (.int q2), .val (.int q3), .val (.long j1), .second, .val (.long j2), .second, .val (.int b7), .val (.int b8), .val (.int b9), .val (.int b10), .val (.int b11), .val (.int b12), .val (.ref o), .unset, .unset, .unset] [(.ref o)]))
        refine own_by (fun t k => XS.lloadN X41.here hx rfl (hb hby at_115) rfl k) ?_
        show own_Go p.tables e below K (T41.setTop (mkF m 116 #[.val (.int q1), .val (.int q2), .val (.int q3), .val (.long j1), .second, .val (.long j2), .second, .val (.int b7), .val (.int b8), .val (.int b9), .val (.int b10), .val (.int b11), .val (.int b12), .val (.ref o), .unset, .unset, .unset] [(.long j1), (.ref o)]))
        refine own_by (fun t k => X41.ldc2Long hx hown (mvT hZ (hw _ (List.mem_of_getElem? (i := 52) rfl))) (g := (mkF m 116 #[.val (.int q1), .val (.int q2), .val (.int q3), .val (.long j1), .second, .val (.long j2), .second, .val (.int b7), .val (.int b8), .val (.int b9), .val (.int b10), .val (.int b11), .val (.int b12), .val (.ref o), .unset, .unset, .unset] [(.long j1), (.ref o)])) rfl (hb hby at_116) _ k) ?_
        show own_Go p.tables e below K (T41.setTop (mkF m 119 #[.val (.int q1), .val (.int q2), .val (.int q3), .val (.long j1), .second, .val (.long j2), .second, .val (.int b7), .val (.int b8), .val (.int b9), .val (.int b10), .val (.int b11), .val (.int b12), .val (.ref o), .unset, .unset, .unset] [(.long (9223372036854775807 : Int64)), (.long j1), (.ref o)]))
        refine own_by (fun t k => XS.land X41.here hx rfl (hb hby at_119) rfl k) ?_
        show own_Go p.tables e below K (T41.setTop (mkF m 120 #[.val (.int q1), .val (.int q2), .val (.int q3), .val (.long j1), .second, .val (.long j2), .second, .val (.int b7), .val (.int b8), .val (.int b9), .val (.int b10), .val (.int b11), .val (.int b12), .val (.ref o), .unset, .unset, .unset] [(.long (j1 &&& (9223372036854775807 : Int64))), (.ref o)]))
        obtain ⟨cq42, kq42, q42a, q42b, q42c⟩ := isOf hZ rfl Bp41.1
        obtain ⟨_, _, ⟨T42, L42, k42, n42⟩, -, X42, ⟨Lc42, hQ42, l42, y42, z42⟩, st42⟩ := X41.virtualBack hx (y := (⟨"com/example/minilingua/minilingua/lang/adpl/Binding", "placeInCell", "(J)V"⟩ : MethodName)) (z := (⟨"com/example/minilingua/minilingua/lang/adpl/Binding", "placeInCell", "(J)V"⟩ : MethodName)) hown (mvT hZ (hw _ (List.mem_of_getElem? (i := 53) rfl))) (mvT hZ (hw _ (List.mem_of_getElem? (i := 54) rfl))) (notFace_of_selects (args := #[]) (mvT hZ (hw _ (List.mem_of_getElem? (i := 56) rfl)))) (mvT hZ (hw _ (List.mem_of_getElem? (i := 56) rfl))) (mvT hZ (hw _ (List.mem_of_getElem? (i := 55) rfl))) (by decide) (backOf (W := 0) (own_rmcellW l Z a0 hw [] o (j1 &&& (9223372036854775807 : Int64)) kp b7 b8 q2 .null T41.heap n0 Z41 Bp41 go (S0.ext O41.2)) hZ (hw _ (List.mem_of_getElem? (i := 57) rfl)) (hw _ (List.mem_of_getElem? (i := 2) rfl)) (by decide) (by decide)) q42a q42c (g := (mkF m 120 #[.val (.int q1), .val (.int q2), .val (.int q3), .val (.long j1), .second, .val (.long j2), .second, .val (.int b7), .val (.int b8), .val (.int b9), .val (.int b10), .val (.int b11), .val (.int b12), .val (.ref o), .unset, .unset, .unset] [(.long (j1 &&& (9223372036854775807 : Int64))), (.ref o)])) rfl (by rw [hml]; rfl) (Steps.refl _) (argsL := [(.long (j1 &&& (9223372036854775807 : Int64)))]) (rest := []) (lenOf own_pd7 rfl) rfl (by show 2 * 0 + _ ≤ _; exact Nat.le_of_eq rfl) (hb hby at_120) (fun _ _ => ⟨rfl, rfl, (by decide : 1 + 1 ≤ _), (by decide : 4 + 2 ≤ _)⟩)
        dsimp only [Pt.U, Pt.locs, Pt.cells, Pt.slots] at X42 l42 y42 z42 st42 hQ42
        subst l42 y42 z42
        obtain ⟨rfl, N42q, Kp42, r42, Bp42⟩ := hQ42
        have N42 := Fr.app N41 N42q
        refine own_by (fun t k => st42.trans k) ?_
        have Z42 := Nat.le_trans Z41 Kp42.1
        have O42 := O41.keep Kp42 (allS go (all0))
        have hce_ : own_ce b9 (.ref r42) := Or.inr ⟨by rcases hb9 with q | q; exact absurd q hc110; exact q, _, rfl⟩
        exact J123 _ _ o _ (own_more X42 (by decide) (by decide)) N42 Z42 O42 go Bp42 hce_
    show own_Go p.tables e below K (s₁.setTop (mkF m 81 #[.val (.int q1), .val (.int q2), .val (.int q3), .val (.long j1), .second, .val (.long j2), .second, .val (.int b7), .val (.int b8), .val (.int b9), .val (.int b10), .val (.int b11), .val (.int b12), .unset, .unset, .unset, .unset] []))
    obtain ⟨T43, h43, X43, e43, E43, A43, D43, -, st43⟩ := newO X0 hx hZ hown (hw _ (List.mem_of_getElem? (i := 0) rfl)) (hw _ (List.mem_of_getElem? (i := 1) rfl)) (hw _ (List.mem_of_getElem? (i := 2) rfl)) e0 (g := (mkF m 81 #[.val (.int q1), .val (.int q2), .val (.int q3), .val (.long j1), .second, .val (.long j2), .second, .val (.int b7), .val (.int b8), .val (.int b9), .val (.int b10), .val (.int b11), .val (.int b12), .unset, .unset, .unset, .unset] [])) rfl (hb hby at_81) (by decide) (by decide)
    obtain ⟨b43, g43⟩ : ∃ z, z = h0.size := ⟨_, rfl⟩
    rw [← g43] at A43 D43 st43
    refine own_by st43 ?_
    have gn_b43 : n0 ≤ b43 := Nat.le_trans Z0 (Nat.le_of_eq g43.symm)
    have Z43 := Nat.le_trans Z0 E43.1
    have O43 := O0.ext E43
    have F43_slot_b43 : Fld Z h43 b43 "com/example/minilingua/minilingua/lang/adpl/Binding" "slot" "I" (.int (0 : Int32)) := D43 (Or.inl (hw _ (List.mem_of_getElem? (i := 15) rfl))) (ty := .int) (by decide)
    have F43_local_b43 : Fld Z h43 b43 "com/example/minilingua/minilingua/lang/adpl/Binding" "local" "Z" (.int (0 : Int32)) := D43 (Or.inl (hw _ (List.mem_of_getElem? (i := 17) rfl))) (ty := .boolean) (by decide)
    have F43_assigned_b43 : Fld Z h43 b43 "com/example/minilingua/minilingua/lang/adpl/Binding" "assigned" "Z" (.int (0 : Int32)) := D43 (Or.inl (hw _ (List.mem_of_getElem? (i := 24) rfl))) (ty := .boolean) (by decide)
    have F43_cell_b43 : Fld Z h43 b43 "com/example/minilingua/minilingua/lang/adpl/Binding" "cell" "Lcom/example/minilingua/minilingua/lang/adpl/Value;" .null := D43 (Or.inl (hw _ (List.mem_of_getElem? (i := 26) rfl))) (ty := (.object "com/example/minilingua/minilingua/lang/adpl/Value")) (by decide)
    have Bn43 : own_B Z h43 b43 0 0 0 .null := ⟨A43, F43_assigned_b43, F43_local_b43, F43_slot_b43, F43_cell_b43, rfl⟩
    show own_Go p.tables e below K (T43.setTop (mkF m 84 #[.val (.int q1), .val (.int q2), .val (.int q3), .val (.long j1), .second, .val (.long j2), .second, .val (.int b7), .val (.int b8), .val (.int b9), .val (.int b10), .val (.int b11), .val (.int b12), .unset, .unset, .unset, .unset] [(.ref b43)]))
    refine own_by (fun t k => XS.dup X43.here hx rfl (hb hby at_84) rfl rfl k) ?_
    show own_Go p.tables e below K (T43.setTop (mkF m 85 #[.val (.int q1), .val (.int q2), .val (.int q3), .val (.long j1), .second, .val (.long j2), .second, .val (.int b7), .val (.int b8), .val (.int b9), .val (.int b10), .val (.int b11), .val (.int b12), .unset, .unset, .unset, .unset] [(.ref b43), (.ref b43)]))
    obtain ⟨_, _, ⟨T44, L44, k44, n44⟩, -, X44, ⟨Lc44, hQ44, l44, y44, z44⟩, st44⟩ := X43.specialBack hx (y := (⟨"com/example/minilingua/minilingua/lang/adpl/Binding", "<init>", "()V"⟩ : MethodName)) rfl hown (mvT hZ (hw _ (List.mem_of_getElem? (i := 3) rfl))) (mvT hZ (hw _ (List.mem_of_getElem? (i := 4) rfl))) (mvT hZ (hw _ (List.mem_of_getElem? (i := 5) rfl))) (by decide) (backOf (W := 1) (own_rmI l Z a0 hw [] b43 h43 n0 Z43) hZ (hw _ (List.mem_of_getElem? (i := 5) rfl)) (hw _ (List.mem_of_getElem? (i := 2) rfl)) (by decide) (by decide)) (g := (mkF m 85 #[.val (.int q1), .val (.int q2), .val (.int q3), .val (.long j1), .second, .val (.long j2), .second, .val (.int b7), .val (.int b8), .val (.int b9), .val (.int b10), .val (.int b11), .val (.int b12), .unset, .unset, .unset, .unset] [(.ref b43), (.ref b43)])) rfl (by rw [hml]; rfl) (Steps.refl _) (a := b43) (argsL := []) (rest := [(.ref b43)]) (lenOf own_pd8 rfl) rfl (by show 2 * 0 + _ ≤ _; exact Nat.le_of_eq rfl) (hb hby at_85) (fun _ _ => ⟨rfl, e43, (by decide : 1 + 0 ≤ _), (by decide : 4 + 0 ≤ _)⟩)
    dsimp only [Pt.U, Pt.locs, Pt.cells, Pt.slots] at X44 l44 y44 z44 st44 hQ44
    subst l44 y44 z44
    obtain ⟨rfl, N44q, e44⟩ := hQ44
    have N44 := Fr.app N0 N44q
    refine own_by (fun t k => st44.trans k) ?_
    show own_Go p.tables e below K (T44.setTop (mkF m 88 #[.val (.int q1), .val (.int q2), .val (.int q3), .val (.long j1), .second, .val (.long j2), .second, .val (.int b7), .val (.int b8), .val (.int b9), .val (.int b10), .val (.int b11), .val (.int b12), .unset, .unset, .unset, .unset] [(.ref b43)]))
    refine own_by (fun t k => XS.astore X44.here hx rfl (hb hby at_88) rfl rfl (l' := #[.val (.int q1), .val (.int q2), .val (.int q3), .val (.long j1), .second, .val (.long j2), .second, .val (.int b7), .val (.int b8), .val (.int b9), .val (.int b10), .val (.int b11), .val (.int b12), .val (.ref b43), .unset, .unset, .unset]) rfl k) ?_
    show own_Go p.tables e below K (T44.setTop (mkF m 90 #[.val (.int q1), .val (.int q2), .val (.int q3), .val (.long j1), .second, .val (.long j2), .second, .val (.int b7), .val (.int b8), .val (.int b9), .val (.int b10), .val (.int b11), .val (.int b12), .val (.ref b43), .unset, .unset, .unset] []))
    refine own_by (fun t k => XS.iload X44.here hx rfl (hb hby at_90) rfl k) ?_
    show own_Go p.tables e below K (T44.setTop (mkF m 92 #[.val (.int q1), .val (.int q2), .val (.int q3), .val (.long j1), .second, .val (.long j2), .second, .val (.int b7), .val (.int b8), .val (.int b9), .val (.int b10), .val (.int b11), .val (.int b12), .val (.ref b43), .unset, .unset, .unset] [(.int b7)]))
    by_cases hc92 : b7 = 0
    · refine own_by (fun t k => XS.ifYes X44.here hx rfl (pc0 := 92) (pc' := 100) rfl (hb hby at_92) rfl ((if0 _ _).trans (teq hc92).1) (by decide) (by decide) k) ?_
      exact J100 _ _ b43 (own_more X44 (by decide) (by decide)) N44 (by rw [e44]; exact Z43) (by rw [e44]; exact O43) gn_b43 (by rw [e44]; exact (by rw [hc92]; exact Bn43))
    · refine own_by (fun t k => XS.ifNo X44.here hx rfl (hb hby at_92) rfl ((if0 _ _).trans (feq hc92).1) k) ?_
      show own_Go p.tables e below K (T44.setTop (mkF m 95 #[.val (.int q1), .val (.int q2), .val (.int q3), .val (.long j1), .second, .val (.long j2), .second, .val (.int b7), .val (.int b8), .val (.int b9), .val (.int b10), .val (.int b11), .val (.int b12), .val (.ref b43), .unset, .unset, .unset] []))
      refine own_by (fun t k => XS.aload X44.here hx rfl (hb hby at_95) rfl rfl k) ?_
      show own_Go p.tables e below K (T44.setTop (mkF m 97 #[.val (.int q1), .val (.int q2), .val (.int q3), .val (.long j1), .second, .val (.long j2), .second, .val (.int b7), .val (.int b8), .val (.int b9), .val (.int b10), .val (.int b11), .val (.int b12), .val (.ref b43), .unset, .unset, .unset] [(.ref b43)]))
      obtain ⟨cq45, kq45, q45a, q45b, q45c⟩ := isOf hZ e44 Bn43.1
      obtain ⟨_, _, ⟨T45, L45, k45, n45⟩, -, X45, ⟨Lc45, hQ45, l45, y45, z45⟩, st45⟩ := X44.virtualBack hx (y := (⟨"com/example/minilingua/minilingua/lang/adpl/Binding", "markAssigned", "()V"⟩ : MethodName)) (z := (⟨"com/example/minilingua/minilingua/lang/adpl/Binding", "markAssigned", "()V"⟩ : MethodName)) hown (mvT hZ (hw _ (List.mem_of_getElem? (i := 47) rfl))) (mvT hZ (hw _ (List.mem_of_getElem? (i := 48) rfl))) (notFace_of_selects (args := #[]) (mvT hZ (hw _ (List.mem_of_getElem? (i := 50) rfl)))) (mvT hZ (hw _ (List.mem_of_getElem? (i := 50) rfl))) (mvT hZ (hw _ (List.mem_of_getElem? (i := 49) rfl))) (by decide) (backOf (W := 0) (own_rmmark l Z a0 hw [] b43 0 0 0 .null h43 n0 Z43 Bn43 gn_b43) hZ (hw _ (List.mem_of_getElem? (i := 51) rfl)) (hw _ (List.mem_of_getElem? (i := 2) rfl)) (by decide) (by decide)) q45a q45c (g := (mkF m 97 #[.val (.int q1), .val (.int q2), .val (.int q3), .val (.long j1), .second, .val (.long j2), .second, .val (.int b7), .val (.int b8), .val (.int b9), .val (.int b10), .val (.int b11), .val (.int b12), .val (.ref b43), .unset, .unset, .unset] [(.ref b43)])) rfl (by rw [hml]; rfl) (Steps.refl _) (argsL := []) (rest := []) (lenOf own_pd8 rfl) rfl (by show 2 * 0 + _ ≤ _; exact Nat.le_of_eq rfl) (hb hby at_97) (fun _ _ => ⟨rfl, e44, (by decide : 1 + 0 ≤ _), (by decide : 4 + 0 ≤ _)⟩)
      dsimp only [Pt.U, Pt.locs, Pt.cells, Pt.slots] at X45 l45 y45 z45 st45 hQ45
      subst l45 y45 z45
      obtain ⟨rfl, N45q, Kp45, Bp45⟩ := hQ45
      have N45 := Fr.app N44 N45q
      refine own_by (fun t k => st45.trans k) ?_
      have Z45 := Nat.le_trans Z43 Kp45.1
      have O45 := O43.keep Kp45 (allS gn_b43 (all0))
      exact J100 _ _ b43 (own_more X45 (by decide) (by decide)) N45 Z45 O45 gn_b43 (by rcases hb7 with q | q; exact absurd q hc92; rw [q]; exact Bp45)
  show own_Go p.tables e below K (s₁.setTop (mkF m 0 #[.val (.int q1), .val (.int q2), .val (.int q3), .val (.long j1), .second, .val (.long j2), .second, .unset, .unset, .unset, .unset, .unset, .unset, .unset, .unset, .unset, .unset] []))
  refine own_by (fun t k => XS.iloadN X0.here hx rfl (hb hby at_0) rfl k) ?_
  show own_Go p.tables e below K (s₁.setTop (mkF m 1 #[.val (.int q1), .val (.int q2), .val (.int q3), .val (.long j1), .second, .val (.long j2), .second, .unset, .unset, .unset, .unset, .unset, .unset, .unset, .unset, .unset, .unset] [(.int q1)]))
  refine own_by (fun t k => XS.iconst X0.here hx rfl (hb hby at_1) k) ?_
  show own_Go p.tables e below K (s₁.setTop (mkF m 2 #[.val (.int q1), .val (.int q2), .val (.int q3), .val (.long j1), .second, .val (.long j2), .second, .unset, .unset, .unset, .unset, .unset, .unset, .unset, .unset, .unset, .unset] [(.int (1 : Int32)), (.int q1)]))
  refine own_by (fun t k => XS.iand X0.here hx rfl (hb hby at_2) rfl k) ?_
  suffices J11 : own_Go p.tables e below K (s₁.setTop (mkF m 11 #[.val (.int q1), .val (.int q2), .val (.int q3), .val (.long j1), .second, .val (.long j2), .second, .unset, .unset, .unset, .unset, .unset, .unset, .unset, .unset, .unset, .unset] [(.int (own_tern (q1 &&& (1 : Int32))))])) by
    show own_Go p.tables e below K (s₁.setTop (mkF m 3 #[.val (.int q1), .val (.int q2), .val (.int q3), .val (.long j1), .second, .val (.long j2), .second, .unset, .unset, .unset, .unset, .unset, .unset, .unset, .unset, .unset, .unset] [(.int (q1 &&& (1 : Int32)))]))
    by_cases hc3 : (q1 &&& (1 : Int32)) = (0 : Int32)
    · refine own_by (fun t k => XS.ifYes X0.here hx rfl (pc0 := 3) (pc' := 10) rfl (hb hby at_3) rfl ((if0 _ _).trans (teq hc3).1) (by decide) (by decide) k) ?_
      show own_Go p.tables e below K (s₁.setTop (mkF m 10 #[.val (.int q1), .val (.int q2), .val (.int q3), .val (.long j1), .second, .val (.long j2), .second, .unset, .unset, .unset, .unset, .unset, .unset, .unset, .unset, .unset, .unset] []))
      refine own_by (fun t k => XS.iconst X0.here hx rfl (hb hby at_10) k) ?_
      rw [own_t0 hc3] at J11; exact J11
    · refine own_by (fun t k => XS.ifNo X0.here hx rfl (hb hby at_3) rfl ((if0 _ _).trans (feq hc3).1) k) ?_
      show own_Go p.tables e below K (s₁.setTop (mkF m 6 #[.val (.int q1), .val (.int q2), .val (.int q3), .val (.long j1), .second, .val (.long j2), .second, .unset, .unset, .unset, .unset, .unset, .unset, .unset, .unset, .unset, .unset] []))
      refine own_by (fun t k => XS.iconst X0.here hx rfl (hb hby at_6) k) ?_
      show own_Go p.tables e below K (s₁.setTop (mkF m 7 #[.val (.int q1), .val (.int q2), .val (.int q3), .val (.long j1), .second, .val (.long j2), .second, .unset, .unset, .unset, .unset, .unset, .unset, .unset, .unset, .unset, .unset] [(.int (1 : Int32))]))
      refine own_by (fun t k => XS.goto X0.here hx rfl (pc0 := 7) (pc' := 11) rfl (hb hby at_7) (by decide) (by decide) k) ?_
      rw [own_t1 hc3] at J11; exact J11
  show own_Go p.tables e below K (s₁.setTop (mkF m 11 #[.val (.int q1), .val (.int q2), .val (.int q3), .val (.long j1), .second, .val (.long j2), .second, .unset, .unset, .unset, .unset, .unset, .unset, .unset, .unset, .unset, .unset] [(.int (own_tern (q1 &&& (1 : Int32))))]))
  refine own_by (fun t k => XS.istore X0.here hx rfl (hb hby at_11) rfl (l' := #[.val (.int q1), .val (.int q2), .val (.int q3), .val (.long j1), .second, .val (.long j2), .second, .val (.int (own_tern (q1 &&& (1 : Int32)))), .unset, .unset, .unset, .unset, .unset, .unset, .unset, .unset, .unset]) rfl k) ?_
  show own_Go p.tables e below K (s₁.setTop (mkF m 13 #[.val (.int q1), .val (.int q2), .val (.int q3), .val (.long j1), .second, .val (.long j2), .second, .val (.int (own_tern (q1 &&& (1 : Int32)))), .unset, .unset, .unset, .unset, .unset, .unset, .unset, .unset, .unset] []))
  refine own_by (fun t k => XS.iloadN X0.here hx rfl (hb hby at_13) rfl k) ?_
  show own_Go p.tables e below K (s₁.setTop (mkF m 14 #[.val (.int q1), .val (.int q2), .val (.int q3), .val (.long j1), .second, .val (.long j2), .second, .val (.int (own_tern (q1 &&& (1 : Int32)))), .unset, .unset, .unset, .unset, .unset, .unset, .unset, .unset, .unset] [(.int q1)]))
  refine own_by (fun t k => XS.iconst X0.here hx rfl (hb hby at_14) k) ?_
  show own_Go p.tables e below K (s₁.setTop (mkF m 15 #[.val (.int q1), .val (.int q2), .val (.int q3), .val (.long j1), .second, .val (.long j2), .second, .val (.int (own_tern (q1 &&& (1 : Int32)))), .unset, .unset, .unset, .unset, .unset, .unset, .unset, .unset, .unset] [(.int (2 : Int32)), (.int q1)]))
  refine own_by (fun t k => XS.iand X0.here hx rfl (hb hby at_15) rfl k) ?_
  suffices J24 : own_Go p.tables e below K (s₁.setTop (mkF m 24 #[.val (.int q1), .val (.int q2), .val (.int q3), .val (.long j1), .second, .val (.long j2), .second, .val (.int (own_tern (q1 &&& (1 : Int32)))), .unset, .unset, .unset, .unset, .unset, .unset, .unset, .unset, .unset] [(.int (own_tern (q1 &&& (2 : Int32))))])) by
    show own_Go p.tables e below K (s₁.setTop (mkF m 16 #[.val (.int q1), .val (.int q2), .val (.int q3), .val (.long j1), .second, .val (.long j2), .second, .val (.int (own_tern (q1 &&& (1 : Int32)))), .unset, .unset, .unset, .unset, .unset, .unset, .unset, .unset, .unset] [(.int (q1 &&& (2 : Int32)))]))
    by_cases hc16 : (q1 &&& (2 : Int32)) = (0 : Int32)
    · refine own_by (fun t k => XS.ifYes X0.here hx rfl (pc0 := 16) (pc' := 23) rfl (hb hby at_16) rfl ((if0 _ _).trans (teq hc16).1) (by decide) (by decide) k) ?_
      show own_Go p.tables e below K (s₁.setTop (mkF m 23 #[.val (.int q1), .val (.int q2), .val (.int q3), .val (.long j1), .second, .val (.long j2), .second, .val (.int (own_tern (q1 &&& (1 : Int32)))), .unset, .unset, .unset, .unset, .unset, .unset, .unset, .unset, .unset] []))
      refine own_by (fun t k => XS.iconst X0.here hx rfl (hb hby at_23) k) ?_
      rw [own_t0 hc16] at J24; exact J24
    · refine own_by (fun t k => XS.ifNo X0.here hx rfl (hb hby at_16) rfl ((if0 _ _).trans (feq hc16).1) k) ?_
      show own_Go p.tables e below K (s₁.setTop (mkF m 19 #[.val (.int q1), .val (.int q2), .val (.int q3), .val (.long j1), .second, .val (.long j2), .second, .val (.int (own_tern (q1 &&& (1 : Int32)))), .unset, .unset, .unset, .unset, .unset, .unset, .unset, .unset, .unset] []))
      refine own_by (fun t k => XS.iconst X0.here hx rfl (hb hby at_19) k) ?_
      show own_Go p.tables e below K (s₁.setTop (mkF m 20 #[.val (.int q1), .val (.int q2), .val (.int q3), .val (.long j1), .second, .val (.long j2), .second, .val (.int (own_tern (q1 &&& (1 : Int32)))), .unset, .unset, .unset, .unset, .unset, .unset, .unset, .unset, .unset] [(.int (1 : Int32))]))
      refine own_by (fun t k => XS.goto X0.here hx rfl (pc0 := 20) (pc' := 24) rfl (hb hby at_20) (by decide) (by decide) k) ?_
      rw [own_t1 hc16] at J24; exact J24
  show own_Go p.tables e below K (s₁.setTop (mkF m 24 #[.val (.int q1), .val (.int q2), .val (.int q3), .val (.long j1), .second, .val (.long j2), .second, .val (.int (own_tern (q1 &&& (1 : Int32)))), .unset, .unset, .unset, .unset, .unset, .unset, .unset, .unset, .unset] [(.int (own_tern (q1 &&& (2 : Int32))))]))
  refine own_by (fun t k => XS.istore X0.here hx rfl (hb hby at_24) rfl (l' := #[.val (.int q1), .val (.int q2), .val (.int q3), .val (.long j1), .second, .val (.long j2), .second, .val (.int (own_tern (q1 &&& (1 : Int32)))), .val (.int (own_tern (q1 &&& (2 : Int32)))), .unset, .unset, .unset, .unset, .unset, .unset, .unset, .unset]) rfl k) ?_
  show own_Go p.tables e below K (s₁.setTop (mkF m 26 #[.val (.int q1), .val (.int q2), .val (.int q3), .val (.long j1), .second, .val (.long j2), .second, .val (.int (own_tern (q1 &&& (1 : Int32)))), .val (.int (own_tern (q1 &&& (2 : Int32)))), .unset, .unset, .unset, .unset, .unset, .unset, .unset, .unset] []))
  refine own_by (fun t k => XS.iloadN X0.here hx rfl (hb hby at_26) rfl k) ?_
  show own_Go p.tables e below K (s₁.setTop (mkF m 27 #[.val (.int q1), .val (.int q2), .val (.int q3), .val (.long j1), .second, .val (.long j2), .second, .val (.int (own_tern (q1 &&& (1 : Int32)))), .val (.int (own_tern (q1 &&& (2 : Int32)))), .unset, .unset, .unset, .unset, .unset, .unset, .unset, .unset] [(.int q1)]))
  refine own_by (fun t k => XS.iconst X0.here hx rfl (hb hby at_27) k) ?_
  show own_Go p.tables e below K (s₁.setTop (mkF m 28 #[.val (.int q1), .val (.int q2), .val (.int q3), .val (.long j1), .second, .val (.long j2), .second, .val (.int (own_tern (q1 &&& (1 : Int32)))), .val (.int (own_tern (q1 &&& (2 : Int32)))), .unset, .unset, .unset, .unset, .unset, .unset, .unset, .unset] [(.int (4 : Int32)), (.int q1)]))
  refine own_by (fun t k => XS.iand X0.here hx rfl (hb hby at_28) rfl k) ?_
  suffices J37 : own_Go p.tables e below K (s₁.setTop (mkF m 37 #[.val (.int q1), .val (.int q2), .val (.int q3), .val (.long j1), .second, .val (.long j2), .second, .val (.int (own_tern (q1 &&& (1 : Int32)))), .val (.int (own_tern (q1 &&& (2 : Int32)))), .unset, .unset, .unset, .unset, .unset, .unset, .unset, .unset] [(.int (own_tern (q1 &&& (4 : Int32))))])) by
    show own_Go p.tables e below K (s₁.setTop (mkF m 29 #[.val (.int q1), .val (.int q2), .val (.int q3), .val (.long j1), .second, .val (.long j2), .second, .val (.int (own_tern (q1 &&& (1 : Int32)))), .val (.int (own_tern (q1 &&& (2 : Int32)))), .unset, .unset, .unset, .unset, .unset, .unset, .unset, .unset] [(.int (q1 &&& (4 : Int32)))]))
    by_cases hc29 : (q1 &&& (4 : Int32)) = (0 : Int32)
    · refine own_by (fun t k => XS.ifYes X0.here hx rfl (pc0 := 29) (pc' := 36) rfl (hb hby at_29) rfl ((if0 _ _).trans (teq hc29).1) (by decide) (by decide) k) ?_
      show own_Go p.tables e below K (s₁.setTop (mkF m 36 #[.val (.int q1), .val (.int q2), .val (.int q3), .val (.long j1), .second, .val (.long j2), .second, .val (.int (own_tern (q1 &&& (1 : Int32)))), .val (.int (own_tern (q1 &&& (2 : Int32)))), .unset, .unset, .unset, .unset, .unset, .unset, .unset, .unset] []))
      refine own_by (fun t k => XS.iconst X0.here hx rfl (hb hby at_36) k) ?_
      rw [own_t0 hc29] at J37; exact J37
    · refine own_by (fun t k => XS.ifNo X0.here hx rfl (hb hby at_29) rfl ((if0 _ _).trans (feq hc29).1) k) ?_
      show own_Go p.tables e below K (s₁.setTop (mkF m 32 #[.val (.int q1), .val (.int q2), .val (.int q3), .val (.long j1), .second, .val (.long j2), .second, .val (.int (own_tern (q1 &&& (1 : Int32)))), .val (.int (own_tern (q1 &&& (2 : Int32)))), .unset, .unset, .unset, .unset, .unset, .unset, .unset, .unset] []))
      refine own_by (fun t k => XS.iconst X0.here hx rfl (hb hby at_32) k) ?_
      show own_Go p.tables e below K (s₁.setTop (mkF m 33 #[.val (.int q1), .val (.int q2), .val (.int q3), .val (.long j1), .second, .val (.long j2), .second, .val (.int (own_tern (q1 &&& (1 : Int32)))), .val (.int (own_tern (q1 &&& (2 : Int32)))), .unset, .unset, .unset, .unset, .unset, .unset, .unset, .unset] [(.int (1 : Int32))]))
      refine own_by (fun t k => XS.goto X0.here hx rfl (pc0 := 33) (pc' := 37) rfl (hb hby at_33) (by decide) (by decide) k) ?_
      rw [own_t1 hc29] at J37; exact J37
  show own_Go p.tables e below K (s₁.setTop (mkF m 37 #[.val (.int q1), .val (.int q2), .val (.int q3), .val (.long j1), .second, .val (.long j2), .second, .val (.int (own_tern (q1 &&& (1 : Int32)))), .val (.int (own_tern (q1 &&& (2 : Int32)))), .unset, .unset, .unset, .unset, .unset, .unset, .unset, .unset] [(.int (own_tern (q1 &&& (4 : Int32))))]))
  refine own_by (fun t k => XS.istore X0.here hx rfl (hb hby at_37) rfl (l' := #[.val (.int q1), .val (.int q2), .val (.int q3), .val (.long j1), .second, .val (.long j2), .second, .val (.int (own_tern (q1 &&& (1 : Int32)))), .val (.int (own_tern (q1 &&& (2 : Int32)))), .val (.int (own_tern (q1 &&& (4 : Int32)))), .unset, .unset, .unset, .unset, .unset, .unset, .unset]) rfl k) ?_
  show own_Go p.tables e below K (s₁.setTop (mkF m 39 #[.val (.int q1), .val (.int q2), .val (.int q3), .val (.long j1), .second, .val (.long j2), .second, .val (.int (own_tern (q1 &&& (1 : Int32)))), .val (.int (own_tern (q1 &&& (2 : Int32)))), .val (.int (own_tern (q1 &&& (4 : Int32)))), .unset, .unset, .unset, .unset, .unset, .unset, .unset] []))
  refine own_by (fun t k => XS.iloadN X0.here hx rfl (hb hby at_39) rfl k) ?_
  show own_Go p.tables e below K (s₁.setTop (mkF m 40 #[.val (.int q1), .val (.int q2), .val (.int q3), .val (.long j1), .second, .val (.long j2), .second, .val (.int (own_tern (q1 &&& (1 : Int32)))), .val (.int (own_tern (q1 &&& (2 : Int32)))), .val (.int (own_tern (q1 &&& (4 : Int32)))), .unset, .unset, .unset, .unset, .unset, .unset, .unset] [(.int q1)]))
  refine own_by (fun t k => XS.bipush X0.here hx rfl (hb hby at_40) k) ?_
  show own_Go p.tables e below K (s₁.setTop (mkF m 42 #[.val (.int q1), .val (.int q2), .val (.int q3), .val (.long j1), .second, .val (.long j2), .second, .val (.int (own_tern (q1 &&& (1 : Int32)))), .val (.int (own_tern (q1 &&& (2 : Int32)))), .val (.int (own_tern (q1 &&& (4 : Int32)))), .unset, .unset, .unset, .unset, .unset, .unset, .unset] [(.int (8 : Int32)), (.int q1)]))
  refine own_by (fun t k => XS.iand X0.here hx rfl (hb hby at_42) rfl k) ?_
  suffices J51 : own_Go p.tables e below K (s₁.setTop (mkF m 51 #[.val (.int q1), .val (.int q2), .val (.int q3), .val (.long j1), .second, .val (.long j2), .second, .val (.int (own_tern (q1 &&& (1 : Int32)))), .val (.int (own_tern (q1 &&& (2 : Int32)))), .val (.int (own_tern (q1 &&& (4 : Int32)))), .unset, .unset, .unset, .unset, .unset, .unset, .unset] [(.int (own_tern (q1 &&& (8 : Int32))))])) by
    show own_Go p.tables e below K (s₁.setTop (mkF m 43 #[.val (.int q1), .val (.int q2), .val (.int q3), .val (.long j1), .second, .val (.long j2), .second, .val (.int (own_tern (q1 &&& (1 : Int32)))), .val (.int (own_tern (q1 &&& (2 : Int32)))), .val (.int (own_tern (q1 &&& (4 : Int32)))), .unset, .unset, .unset, .unset, .unset, .unset, .unset] [(.int (q1 &&& (8 : Int32)))]))
    by_cases hc43 : (q1 &&& (8 : Int32)) = (0 : Int32)
    · refine own_by (fun t k => XS.ifYes X0.here hx rfl (pc0 := 43) (pc' := 50) rfl (hb hby at_43) rfl ((if0 _ _).trans (teq hc43).1) (by decide) (by decide) k) ?_
      show own_Go p.tables e below K (s₁.setTop (mkF m 50 #[.val (.int q1), .val (.int q2), .val (.int q3), .val (.long j1), .second, .val (.long j2), .second, .val (.int (own_tern (q1 &&& (1 : Int32)))), .val (.int (own_tern (q1 &&& (2 : Int32)))), .val (.int (own_tern (q1 &&& (4 : Int32)))), .unset, .unset, .unset, .unset, .unset, .unset, .unset] []))
      refine own_by (fun t k => XS.iconst X0.here hx rfl (hb hby at_50) k) ?_
      rw [own_t0 hc43] at J51; exact J51
    · refine own_by (fun t k => XS.ifNo X0.here hx rfl (hb hby at_43) rfl ((if0 _ _).trans (feq hc43).1) k) ?_
      show own_Go p.tables e below K (s₁.setTop (mkF m 46 #[.val (.int q1), .val (.int q2), .val (.int q3), .val (.long j1), .second, .val (.long j2), .second, .val (.int (own_tern (q1 &&& (1 : Int32)))), .val (.int (own_tern (q1 &&& (2 : Int32)))), .val (.int (own_tern (q1 &&& (4 : Int32)))), .unset, .unset, .unset, .unset, .unset, .unset, .unset] []))
      refine own_by (fun t k => XS.iconst X0.here hx rfl (hb hby at_46) k) ?_
      show own_Go p.tables e below K (s₁.setTop (mkF m 47 #[.val (.int q1), .val (.int q2), .val (.int q3), .val (.long j1), .second, .val (.long j2), .second, .val (.int (own_tern (q1 &&& (1 : Int32)))), .val (.int (own_tern (q1 &&& (2 : Int32)))), .val (.int (own_tern (q1 &&& (4 : Int32)))), .unset, .unset, .unset, .unset, .unset, .unset, .unset] [(.int (1 : Int32))]))
      refine own_by (fun t k => XS.goto X0.here hx rfl (pc0 := 47) (pc' := 51) rfl (hb hby at_47) (by decide) (by decide) k) ?_
      rw [own_t1 hc43] at J51; exact J51
  show own_Go p.tables e below K (s₁.setTop (mkF m 51 #[.val (.int q1), .val (.int q2), .val (.int q3), .val (.long j1), .second, .val (.long j2), .second, .val (.int (own_tern (q1 &&& (1 : Int32)))), .val (.int (own_tern (q1 &&& (2 : Int32)))), .val (.int (own_tern (q1 &&& (4 : Int32)))), .unset, .unset, .unset, .unset, .unset, .unset, .unset] [(.int (own_tern (q1 &&& (8 : Int32))))]))
  refine own_by (fun t k => XS.istore X0.here hx rfl (hb hby at_51) rfl (l' := #[.val (.int q1), .val (.int q2), .val (.int q3), .val (.long j1), .second, .val (.long j2), .second, .val (.int (own_tern (q1 &&& (1 : Int32)))), .val (.int (own_tern (q1 &&& (2 : Int32)))), .val (.int (own_tern (q1 &&& (4 : Int32)))), .val (.int (own_tern (q1 &&& (8 : Int32)))), .unset, .unset, .unset, .unset, .unset, .unset]) rfl k) ?_
  show own_Go p.tables e below K (s₁.setTop (mkF m 53 #[.val (.int q1), .val (.int q2), .val (.int q3), .val (.long j1), .second, .val (.long j2), .second, .val (.int (own_tern (q1 &&& (1 : Int32)))), .val (.int (own_tern (q1 &&& (2 : Int32)))), .val (.int (own_tern (q1 &&& (4 : Int32)))), .val (.int (own_tern (q1 &&& (8 : Int32)))), .unset, .unset, .unset, .unset, .unset, .unset] []))
  refine own_by (fun t k => XS.iloadN X0.here hx rfl (hb hby at_53) rfl k) ?_
  show own_Go p.tables e below K (s₁.setTop (mkF m 54 #[.val (.int q1), .val (.int q2), .val (.int q3), .val (.long j1), .second, .val (.long j2), .second, .val (.int (own_tern (q1 &&& (1 : Int32)))), .val (.int (own_tern (q1 &&& (2 : Int32)))), .val (.int (own_tern (q1 &&& (4 : Int32)))), .val (.int (own_tern (q1 &&& (8 : Int32)))), .unset, .unset, .unset, .unset, .unset, .unset] [(.int q1)]))
  refine own_by (fun t k => XS.bipush X0.here hx rfl (hb hby at_54) k) ?_
  show own_Go p.tables e below K (s₁.setTop (mkF m 56 #[.val (.int q1), .val (.int q2), .val (.int q3), .val (.long j1), .second, .val (.long j2), .second, .val (.int (own_tern (q1 &&& (1 : Int32)))), .val (.int (own_tern (q1 &&& (2 : Int32)))), .val (.int (own_tern (q1 &&& (4 : Int32)))), .val (.int (own_tern (q1 &&& (8 : Int32)))), .unset, .unset, .unset, .unset, .unset, .unset] [(.int (16 : Int32)), (.int q1)]))
  refine own_by (fun t k => XS.iand X0.here hx rfl (hb hby at_56) rfl k) ?_
  suffices J65 : own_Go p.tables e below K (s₁.setTop (mkF m 65 #[.val (.int q1), .val (.int q2), .val (.int q3), .val (.long j1), .second, .val (.long j2), .second, .val (.int (own_tern (q1 &&& (1 : Int32)))), .val (.int (own_tern (q1 &&& (2 : Int32)))), .val (.int (own_tern (q1 &&& (4 : Int32)))), .val (.int (own_tern (q1 &&& (8 : Int32)))), .unset, .unset, .unset, .unset, .unset, .unset] [(.int (own_tern (q1 &&& (16 : Int32))))])) by
    show own_Go p.tables e below K (s₁.setTop (mkF m 57 #[.val (.int q1), .val (.int q2), .val (.int q3), .val (.long j1), .second, .val (.long j2), .second, .val (.int (own_tern (q1 &&& (1 : Int32)))), .val (.int (own_tern (q1 &&& (2 : Int32)))), .val (.int (own_tern (q1 &&& (4 : Int32)))), .val (.int (own_tern (q1 &&& (8 : Int32)))), .unset, .unset, .unset, .unset, .unset, .unset] [(.int (q1 &&& (16 : Int32)))]))
    by_cases hc57 : (q1 &&& (16 : Int32)) = (0 : Int32)
    · refine own_by (fun t k => XS.ifYes X0.here hx rfl (pc0 := 57) (pc' := 64) rfl (hb hby at_57) rfl ((if0 _ _).trans (teq hc57).1) (by decide) (by decide) k) ?_
      show own_Go p.tables e below K (s₁.setTop (mkF m 64 #[.val (.int q1), .val (.int q2), .val (.int q3), .val (.long j1), .second, .val (.long j2), .second, .val (.int (own_tern (q1 &&& (1 : Int32)))), .val (.int (own_tern (q1 &&& (2 : Int32)))), .val (.int (own_tern (q1 &&& (4 : Int32)))), .val (.int (own_tern (q1 &&& (8 : Int32)))), .unset, .unset, .unset, .unset, .unset, .unset] []))
      refine own_by (fun t k => XS.iconst X0.here hx rfl (hb hby at_64) k) ?_
      rw [own_t0 hc57] at J65; exact J65
    · refine own_by (fun t k => XS.ifNo X0.here hx rfl (hb hby at_57) rfl ((if0 _ _).trans (feq hc57).1) k) ?_
      show own_Go p.tables e below K (s₁.setTop (mkF m 60 #[.val (.int q1), .val (.int q2), .val (.int q3), .val (.long j1), .second, .val (.long j2), .second, .val (.int (own_tern (q1 &&& (1 : Int32)))), .val (.int (own_tern (q1 &&& (2 : Int32)))), .val (.int (own_tern (q1 &&& (4 : Int32)))), .val (.int (own_tern (q1 &&& (8 : Int32)))), .unset, .unset, .unset, .unset, .unset, .unset] []))
      refine own_by (fun t k => XS.iconst X0.here hx rfl (hb hby at_60) k) ?_
      show own_Go p.tables e below K (s₁.setTop (mkF m 61 #[.val (.int q1), .val (.int q2), .val (.int q3), .val (.long j1), .second, .val (.long j2), .second, .val (.int (own_tern (q1 &&& (1 : Int32)))), .val (.int (own_tern (q1 &&& (2 : Int32)))), .val (.int (own_tern (q1 &&& (4 : Int32)))), .val (.int (own_tern (q1 &&& (8 : Int32)))), .unset, .unset, .unset, .unset, .unset, .unset] [(.int (1 : Int32))]))
      refine own_by (fun t k => XS.goto X0.here hx rfl (pc0 := 61) (pc' := 65) rfl (hb hby at_61) (by decide) (by decide) k) ?_
      rw [own_t1 hc57] at J65; exact J65
  show own_Go p.tables e below K (s₁.setTop (mkF m 65 #[.val (.int q1), .val (.int q2), .val (.int q3), .val (.long j1), .second, .val (.long j2), .second, .val (.int (own_tern (q1 &&& (1 : Int32)))), .val (.int (own_tern (q1 &&& (2 : Int32)))), .val (.int (own_tern (q1 &&& (4 : Int32)))), .val (.int (own_tern (q1 &&& (8 : Int32)))), .unset, .unset, .unset, .unset, .unset, .unset] [(.int (own_tern (q1 &&& (16 : Int32))))]))
  refine own_by (fun t k => XS.istore X0.here hx rfl (hb hby at_65) rfl (l' := #[.val (.int q1), .val (.int q2), .val (.int q3), .val (.long j1), .second, .val (.long j2), .second, .val (.int (own_tern (q1 &&& (1 : Int32)))), .val (.int (own_tern (q1 &&& (2 : Int32)))), .val (.int (own_tern (q1 &&& (4 : Int32)))), .val (.int (own_tern (q1 &&& (8 : Int32)))), .val (.int (own_tern (q1 &&& (16 : Int32)))), .unset, .unset, .unset, .unset, .unset]) rfl k) ?_
  show own_Go p.tables e below K (s₁.setTop (mkF m 67 #[.val (.int q1), .val (.int q2), .val (.int q3), .val (.long j1), .second, .val (.long j2), .second, .val (.int (own_tern (q1 &&& (1 : Int32)))), .val (.int (own_tern (q1 &&& (2 : Int32)))), .val (.int (own_tern (q1 &&& (4 : Int32)))), .val (.int (own_tern (q1 &&& (8 : Int32)))), .val (.int (own_tern (q1 &&& (16 : Int32)))), .unset, .unset, .unset, .unset, .unset] []))
  refine own_by (fun t k => XS.iloadN X0.here hx rfl (hb hby at_67) rfl k) ?_
  show own_Go p.tables e below K (s₁.setTop (mkF m 68 #[.val (.int q1), .val (.int q2), .val (.int q3), .val (.long j1), .second, .val (.long j2), .second, .val (.int (own_tern (q1 &&& (1 : Int32)))), .val (.int (own_tern (q1 &&& (2 : Int32)))), .val (.int (own_tern (q1 &&& (4 : Int32)))), .val (.int (own_tern (q1 &&& (8 : Int32)))), .val (.int (own_tern (q1 &&& (16 : Int32)))), .unset, .unset, .unset, .unset, .unset] [(.int q1)]))
  refine own_by (fun t k => XS.bipush X0.here hx rfl (hb hby at_68) k) ?_
  show own_Go p.tables e below K (s₁.setTop (mkF m 70 #[.val (.int q1), .val (.int q2), .val (.int q3), .val (.long j1), .second, .val (.long j2), .second, .val (.int (own_tern (q1 &&& (1 : Int32)))), .val (.int (own_tern (q1 &&& (2 : Int32)))), .val (.int (own_tern (q1 &&& (4 : Int32)))), .val (.int (own_tern (q1 &&& (8 : Int32)))), .val (.int (own_tern (q1 &&& (16 : Int32)))), .unset, .unset, .unset, .unset, .unset] [(.int (32 : Int32)), (.int q1)]))
  refine own_by (fun t k => XS.iand X0.here hx rfl (hb hby at_70) rfl k) ?_
  suffices J79 : own_Go p.tables e below K (s₁.setTop (mkF m 79 #[.val (.int q1), .val (.int q2), .val (.int q3), .val (.long j1), .second, .val (.long j2), .second, .val (.int (own_tern (q1 &&& (1 : Int32)))), .val (.int (own_tern (q1 &&& (2 : Int32)))), .val (.int (own_tern (q1 &&& (4 : Int32)))), .val (.int (own_tern (q1 &&& (8 : Int32)))), .val (.int (own_tern (q1 &&& (16 : Int32)))), .unset, .unset, .unset, .unset, .unset] [(.int (own_tern (q1 &&& (32 : Int32))))])) by
    show own_Go p.tables e below K (s₁.setTop (mkF m 71 #[.val (.int q1), .val (.int q2), .val (.int q3), .val (.long j1), .second, .val (.long j2), .second, .val (.int (own_tern (q1 &&& (1 : Int32)))), .val (.int (own_tern (q1 &&& (2 : Int32)))), .val (.int (own_tern (q1 &&& (4 : Int32)))), .val (.int (own_tern (q1 &&& (8 : Int32)))), .val (.int (own_tern (q1 &&& (16 : Int32)))), .unset, .unset, .unset, .unset, .unset] [(.int (q1 &&& (32 : Int32)))]))
    by_cases hc71 : (q1 &&& (32 : Int32)) = (0 : Int32)
    · refine own_by (fun t k => XS.ifYes X0.here hx rfl (pc0 := 71) (pc' := 78) rfl (hb hby at_71) rfl ((if0 _ _).trans (teq hc71).1) (by decide) (by decide) k) ?_
      show own_Go p.tables e below K (s₁.setTop (mkF m 78 #[.val (.int q1), .val (.int q2), .val (.int q3), .val (.long j1), .second, .val (.long j2), .second, .val (.int (own_tern (q1 &&& (1 : Int32)))), .val (.int (own_tern (q1 &&& (2 : Int32)))), .val (.int (own_tern (q1 &&& (4 : Int32)))), .val (.int (own_tern (q1 &&& (8 : Int32)))), .val (.int (own_tern (q1 &&& (16 : Int32)))), .unset, .unset, .unset, .unset, .unset] []))
      refine own_by (fun t k => XS.iconst X0.here hx rfl (hb hby at_78) k) ?_
      rw [own_t0 hc71] at J79; exact J79
    · refine own_by (fun t k => XS.ifNo X0.here hx rfl (hb hby at_71) rfl ((if0 _ _).trans (feq hc71).1) k) ?_
      show own_Go p.tables e below K (s₁.setTop (mkF m 74 #[.val (.int q1), .val (.int q2), .val (.int q3), .val (.long j1), .second, .val (.long j2), .second, .val (.int (own_tern (q1 &&& (1 : Int32)))), .val (.int (own_tern (q1 &&& (2 : Int32)))), .val (.int (own_tern (q1 &&& (4 : Int32)))), .val (.int (own_tern (q1 &&& (8 : Int32)))), .val (.int (own_tern (q1 &&& (16 : Int32)))), .unset, .unset, .unset, .unset, .unset] []))
      refine own_by (fun t k => XS.iconst X0.here hx rfl (hb hby at_74) k) ?_
      show own_Go p.tables e below K (s₁.setTop (mkF m 75 #[.val (.int q1), .val (.int q2), .val (.int q3), .val (.long j1), .second, .val (.long j2), .second, .val (.int (own_tern (q1 &&& (1 : Int32)))), .val (.int (own_tern (q1 &&& (2 : Int32)))), .val (.int (own_tern (q1 &&& (4 : Int32)))), .val (.int (own_tern (q1 &&& (8 : Int32)))), .val (.int (own_tern (q1 &&& (16 : Int32)))), .unset, .unset, .unset, .unset, .unset] [(.int (1 : Int32))]))
      refine own_by (fun t k => XS.goto X0.here hx rfl (pc0 := 75) (pc' := 79) rfl (hb hby at_75) (by decide) (by decide) k) ?_
      rw [own_t1 hc71] at J79; exact J79
  show own_Go p.tables e below K (s₁.setTop (mkF m 79 #[.val (.int q1), .val (.int q2), .val (.int q3), .val (.long j1), .second, .val (.long j2), .second, .val (.int (own_tern (q1 &&& (1 : Int32)))), .val (.int (own_tern (q1 &&& (2 : Int32)))), .val (.int (own_tern (q1 &&& (4 : Int32)))), .val (.int (own_tern (q1 &&& (8 : Int32)))), .val (.int (own_tern (q1 &&& (16 : Int32)))), .unset, .unset, .unset, .unset, .unset] [(.int (own_tern (q1 &&& (32 : Int32))))]))
  refine own_by (fun t k => XS.istore X0.here hx rfl (hb hby at_79) rfl (l' := #[.val (.int q1), .val (.int q2), .val (.int q3), .val (.long j1), .second, .val (.long j2), .second, .val (.int (own_tern (q1 &&& (1 : Int32)))), .val (.int (own_tern (q1 &&& (2 : Int32)))), .val (.int (own_tern (q1 &&& (4 : Int32)))), .val (.int (own_tern (q1 &&& (8 : Int32)))), .val (.int (own_tern (q1 &&& (16 : Int32)))), .val (.int (own_tern (q1 &&& (32 : Int32)))), .unset, .unset, .unset, .unset]) rfl k) ?_
  exact J81 _ _ _ _ _ _ (own_t01 _) (own_t01 _) (own_t01 _) (own_t01 _) (own_t01 _) (own_t01 _)
set_option maxRecDepth 65536 in
set_option maxHeartbeats 40000000 in
theorem own_comes {Post : Tables → Env → Array Value → State → Outcome → State → Prop} (hpost : ∀ tb e args s v u, (limb_1_1.after args s (.returned v) u = true ∧ limb_1_2.after args s (.returned v) u = true ∧ True) → FrameEnd s (.returned v) u (Jvm.fieldLocs frame_1_writes args s ++ Jvm.arrayLocs frame_1_arrays args s ++ Jvm.staticLocs frame_1_statics s) 16 128 → Post tb e args s (.returned v) u) :
    ArmFor flags0 classFile x code maxLocals ret World_1 tables_1 room_1 Calls_1 rest_1 Pre_1 Post := by
  intro l hfl _ _ p e ha hc hk s m args below hf hA hF happ hP
  obtain ⟨hcalls, hrest, hpre⟩ := hP
  obtain ⟨-, -, -, hnamed, -, -, -, hat⟩ := (Spec.applies_iff hf).mp happ
  obtain ⟨hg, hn⟩ := and_e (Cond.before_iff.mp (show (Jvm.Cond.and given_1 narrow_1).before args s = true from hpre))
  obtain ⟨hcount, g0⟩ := and_e hg
  obtain ⟨a0, g1⟩ := and_e g0
  obtain ⟨a1, g2⟩ := and_e g1
  obtain ⟨a2, g3⟩ := and_e g2
  obtain ⟨a3, g4⟩ := and_e g3
  obtain ⟨w0, w1, w2, w3, w4, rfl⟩ : ∃ w0 w1 w2 w3 w4 : Value, args = #[w0, w1, w2, w3, w4] := by
    have hs : args.size = 5 := by simpa [Cond.value, given_1] using hcount
    obtain ⟨L⟩ := args
    match L, hs with
    | [w0, w1, w2, w3, w4], _ => exact ⟨w0, w1, w2, w3, w4, rfl⟩
  have hw := fun d (hd : d ∈ tables_1) => atoms_spec (ws := Jvm.Cond.code x code maxLocals ret :: tables_1) hat d (List.mem_cons_of_mem _ hd)
  have hfit : Fit s := fun {y c} hc i hi => by
    obtain ⟨ha, rfl⟩ := Array.getElem?_eq_some_iff.mp hc
    have q := List.all_eq_true.mp ((Array.all_eq_true_iff_forall_mem.mp hF) _ (Array.getElem_mem ha)) i (List.mem_range.mpr hi)
    simpa [Array.getElem?_eq_getElem hi] using q
  obtain ⟨i0, ei0⟩ := is_v a0
  obtain rfl : w0 = (.int i0) := Option.some.inj ei0
  obtain ⟨i1, ei1⟩ := is_v a1
  obtain rfl : w1 = (.int i1) := Option.some.inj ei1
  obtain ⟨i2, ei2⟩ := is_v a2
  obtain rfl : w2 = (.int i2) := Option.some.inj ei2
  obtain ⟨i3, ei3⟩ := isL_v a3
  obtain rfl : w3 = (.long i3) := Option.some.inj ei3
  obtain ⟨i4, ei4⟩ := isL_v g4
  obtain rfl : w4 = (.long i4) := Option.some.inj ei4
  obtain ⟨kp, evP⟩ := exa_v hn
  have S_P := Sta.start evP (Or.inr ⟨(hw _ (List.mem_of_getElem? (i := 65) rfl)), (hw _ (List.mem_of_getElem? (i := 66) rfl))⟩)
  obtain ⟨n, o, h1, h2, h3, _, L, rfl, ⟨rfl, N⟩, hq⟩ := own_rm0 l s _ hw tables_1 i0 i1 i2 i3 i4 kp s.heap s.heap.size (Nat.le_refl _) (Old.start s) S_P p e ha hc hk s m _ below hf ((Spec.applies_iff_loose hf).mp happ).1 ⟨rfl, State.Warmed39.refl s, rfl⟩ trivial
  refine ⟨n, _, h1, h2, h3, hpost _ _ _ _ _ _ ⟨Cond.after_iff.mpr rfl, Cond.after_iff.mpr (eq_i res_at (Term.int_eval (1)) rfl), trivial⟩ ⟨hq.1, hq.2.1, (hq.2.2.sift fun y hy => Or.inr (N y hy)).mono (by decide) (by decide)⟩⟩
theorem main_1_1 : Claimed_1_1 := own_comes fun _ _ _ _ _ _ h hF => ⟨h.1, hF⟩
theorem main_1_2 : Claimed_1_2 := own_comes fun _ _ _ _ _ _ h hF => ⟨h.2.1, hF⟩
end Jvm.Pilot.@@N@@
namespace Jvm.Pilot.@@N@@
open Jvm Jvm.ClassFile Sem Op Lib Jvm.Free Jvm.Stand Jvm.Pilot.@@N@@.Jvm.D
/-! MADE BY PROGRAM (witnessworld.py) out of the Statement's table words and the real class files: 14 classes; the members and pool entries that the words name. The judged class is class 1, her method 1. -/
namespace start1
open Jvm.ClassFile
def u (s : String) : CpInfo := .utf8 (stringToUtf16 s)
/-- a pool by its gaps: so many unusable entries, then the entry; so many at the end -/
def gap : Nat → List CpInfo → List CpInfo
  | 0, r => r
  | n + 1, r => .unusable :: gap n r
def poolList (es : List (Nat × CpInfo)) (last : Nat) : List CpInfo := es.foldr (fun e r => gap e.1 (e.2 :: r)) (gap last [])
def pool (es : List (Nat × CpInfo)) (last : Nat) : Array CpInfo := ⟨poolList es last⟩
def fileOf (pool : Array CpInfo) (this : Nat) (attrs : Array Attribute := #[]) (ms : Array MethodInfo := #[]) (fl : Nat := 33) (sup : Nat := 0) (ifs : Array Nat := #[]) (fds : Array FieldInfo := #[]) : ClassFile where
  minorVersion := 0
  majorVersion := 65
  constantPool := pool
  accessFlags := fl
  thisClass := this
  superClass := sup
  interfaces := ifs
  fields := fds
  methods := ms
  attributes := attrs
def plain (name : String) (sup : Option ClassId) : Class where
  name := name
  kind := .ordinary
  loader := none
  accessFlags := 33
  super := sup
  interfaces := #[]
  cf := none
  fields := #[]
  methods := #[]
  instanceTypes := #[]
  staticTypes := #[]
  resolved := #[]
  callSites := []
  init := .initialized
  statics := none
  mirror := none

def pool0 : Array CpInfo := pool [(5, u "<init>"), (0, u "()V"), (1, .class_ 10), (1, u "java/lang/Object")] 113

def k0c0 : Code := { maxStack := 0, maxLocals := 1, code := object_method_1_code, exceptionTable := #[], attributes := #[] }
def k0m0 : Method := { name := "<init>", desc := "()V", sig := { parameters := [], returnType := none }, accessFlags := 1, code := some k0c0 }
/-- java/lang/Object -/
def k0 : Class := { plain "java/lang/Object" none with
  accessFlags := 33
  interfaces := #[]
  cf := some (fileOf pool0 8 #[] #[{ accessFlags := 1, nameIndex := 5, descriptorIndex := 6, attributes := #[] }] 33 0 #[] #[])
  fields := #[]
  methods := #[k0m0]
  instanceTypes := #[]
  staticTypes := #[]
  resolved := Array.replicate 124 none
  statics := none }

def pool1 : Array CpInfo := pool [(2, .class_ 4), (0, .nameAndType 5 6), (0, u "java/lang/Object"), (0, u "<init>"), (0, u "()V"), (0, .class_ 8), (0, u "com/example/minilingua/minilingua/lang/adpl/Binding"), (0, .methodref 7 3), (0, .methodref 7 11), (0, .nameAndType 12 6), (0, u "markAssigned"), (0, .methodref 7 14), (0, .nameAndType 15 16), (0, u "placeInSlot"), (0, u "(IZ)V"), (2, .long 9223372036854775807), (1, .methodref 7 22), (0, .nameAndType 23 24), (0, u "placeInCell"), (0, u "(J)V"), (0, .methodref 7 26), (0, .nameAndType 27 28), (0, u "placeAs"), (0, u "(Lcom/example/minilingua/minilingua/lang/adpl/Binding;)V"), (0, .methodref 7 30), (0, .nameAndType 31 32), (0, u "cell"), (0, u "()Lcom/example/minilingua/minilingua/lang/adpl/Value;"), (0, .methodref 7 34), (0, .nameAndType 35 36), (0, u "assigned"), (0, u "()Z"), (0, .methodref 7 38), (0, .nameAndType 39 36), (0, u "isLocal"), (0, .methodref 7 41), (0, .nameAndType 42 43), (0, u "slot"), (0, u "()I"), (0, .class_ 45), (0, u "com/example/minilingua/minilingua/lang/adpl/BindingPlaceAsPinLaw"), (2, u "law"), (0, u "(IIIJJ)Z")] 5

def k1m0 : Method := { name := "<init>", desc := "()V", sig := { parameters := [], returnType := none }, accessFlags := 2, code := none }
def k1c1 : Code := { maxStack := 5, maxLocals := 17, code := code, exceptionTable := #[], attributes := #[] }
def k1m1 : Method := { name := "law", desc := "(IIIJJ)Z", sig := { parameters := [.int, .int, .int, .long, .long], returnType := some .boolean }, accessFlags := 9, code := some k1c1 }
/-- com/example/minilingua/minilingua/lang/adpl/BindingPlaceAsPinLaw -/
def k1 : Class := { plain "com/example/minilingua/minilingua/lang/adpl/BindingPlaceAsPinLaw" (some 0) with
  accessFlags := 49
  interfaces := #[]
  cf := some (fileOf pool1 44 #[] #[{ accessFlags := 2, nameIndex := 5, descriptorIndex := 6, attributes := #[] }, { accessFlags := 9, nameIndex := 48, descriptorIndex := 49, attributes := #[] }] 49 2 #[] #[])
  fields := #[]
  methods := #[k1m0, k1m1]
  instanceTypes := #[]
  staticTypes := #[]
  resolved := Array.replicate 55 none
  statics := none }

def pool2 : Array CpInfo := pool [(1, .methodref 2 3), (0, .class_ 4), (0, .nameAndType 5 6), (0, u "java/lang/Object"), (0, u "<init>"), (0, u "()V"), (0, .fieldref 8 9), (0, .class_ 10), (0, .nameAndType 11 12), (0, u "com/example/minilingua/minilingua/lang/adpl/Binding"), (0, u "assigned"), (0, u "Z"), (0, .fieldref 8 14), (0, .nameAndType 15 12), (0, u "local"), (0, .fieldref 8 17), (0, .nameAndType 18 19), (0, u "slot"), (0, u "I"), (0, .fieldref 8 21), (0, .nameAndType 22 23), (0, u "cell"), (0, u "Lcom/example/minilingua/minilingua/lang/adpl/Value;"), (0, .methodref 25 26), (0, .class_ 27), (0, .nameAndType 28 29), (0, u "com/example/minilingua/minilingua/lang/adpl/Value"), (0, u "pointer"), (0, u "(J)Lcom/example/minilingua/minilingua/lang/adpl/Value;"), (2, u "()Z"), (0, u "markAssigned"), (0, u "isLocal"), (0, u "()I"), (0, u "placeInSlot"), (0, u "(IZ)V"), (0, u "()Lcom/example/minilingua/minilingua/lang/adpl/Value;"), (0, u "placeInCell"), (0, u "(J)V"), (0, u "placeAs"), (0, u "(Lcom/example/minilingua/minilingua/lang/adpl/Binding;)V")] 2

def k2c0 : Code := { maxStack := 1, maxLocals := 1, code := prog_31_method_1_code, exceptionTable := #[], attributes := #[] }
def k2m0 : Method := { name := "<init>", desc := "()V", sig := { parameters := [], returnType := none }, accessFlags := 0, code := some k2c0 }
def k2c1 : Code := { maxStack := 1, maxLocals := 1, code := prog_31_method_2_code, exceptionTable := #[], attributes := #[] }
def k2m1 : Method := { name := "assigned", desc := "()Z", sig := { parameters := [], returnType := some .boolean }, accessFlags := 0, code := some k2c1 }
def k2c2 : Code := { maxStack := 2, maxLocals := 1, code := prog_31_method_3_code, exceptionTable := #[], attributes := #[] }
def k2m2 : Method := { name := "markAssigned", desc := "()V", sig := { parameters := [], returnType := none }, accessFlags := 0, code := some k2c2 }
def k2c3 : Code := { maxStack := 1, maxLocals := 1, code := prog_31_method_4_code, exceptionTable := #[], attributes := #[] }
def k2m3 : Method := { name := "isLocal", desc := "()Z", sig := { parameters := [], returnType := some .boolean }, accessFlags := 0, code := some k2c3 }
def k2c4 : Code := { maxStack := 1, maxLocals := 1, code := prog_31_method_5_code, exceptionTable := #[], attributes := #[] }
def k2m4 : Method := { name := "slot", desc := "()I", sig := { parameters := [], returnType := some .int }, accessFlags := 0, code := some k2c4 }
def k2c5 : Code := { maxStack := 2, maxLocals := 3, code := prog_31_method_6_code, exceptionTable := #[], attributes := #[] }
def k2m5 : Method := { name := "placeInSlot", desc := "(IZ)V", sig := { parameters := [.int, .boolean], returnType := none }, accessFlags := 0, code := some k2c5 }
def k2c6 : Code := { maxStack := 1, maxLocals := 1, code := prog_31_method_7_code, exceptionTable := #[], attributes := #[] }
def k2m6 : Method := { name := "cell", desc := "()Lcom/example/minilingua/minilingua/lang/adpl/Value;", sig := { parameters := [], returnType := some (.object "com/example/minilingua/minilingua/lang/adpl/Value") }, accessFlags := 0, code := some k2c6 }
def k2c7 : Code := { maxStack := 3, maxLocals := 3, code := prog_31_method_8_code, exceptionTable := #[], attributes := #[] }
def k2m7 : Method := { name := "placeInCell", desc := "(J)V", sig := { parameters := [.long], returnType := none }, accessFlags := 0, code := some k2c7 }
def k2c8 : Code := { maxStack := 2, maxLocals := 2, code := prog_31_method_9_code, exceptionTable := #[], attributes := #[] }
def k2m8 : Method := { name := "placeAs", desc := "(Lcom/example/minilingua/minilingua/lang/adpl/Binding;)V", sig := { parameters := [(.object "com/example/minilingua/minilingua/lang/adpl/Binding")], returnType := none }, accessFlags := 0, code := some k2c8 }
/-- com/example/minilingua/minilingua/lang/adpl/Binding -/
def k2 : Class := { plain "com/example/minilingua/minilingua/lang/adpl/Binding" (some 0) with
  accessFlags := 48
  interfaces := #[]
  cf := some (fileOf pool2 8 #[] #[{ accessFlags := 0, nameIndex := 5, descriptorIndex := 6, attributes := #[] }, { accessFlags := 0, nameIndex := 11, descriptorIndex := 32, attributes := #[] }, { accessFlags := 0, nameIndex := 33, descriptorIndex := 6, attributes := #[] }, { accessFlags := 0, nameIndex := 34, descriptorIndex := 32, attributes := #[] }, { accessFlags := 0, nameIndex := 18, descriptorIndex := 35, attributes := #[] }, { accessFlags := 0, nameIndex := 36, descriptorIndex := 37, attributes := #[] }, { accessFlags := 0, nameIndex := 22, descriptorIndex := 38, attributes := #[] }, { accessFlags := 0, nameIndex := 39, descriptorIndex := 40, attributes := #[] }, { accessFlags := 0, nameIndex := 41, descriptorIndex := 42, attributes := #[] }] 48 2 #[] #[{ accessFlags := 2, nameIndex := 11, descriptorIndex := 12, attributes := #[] }, { accessFlags := 2, nameIndex := 15, descriptorIndex := 12, attributes := #[] }, { accessFlags := 2, nameIndex := 18, descriptorIndex := 19, attributes := #[] }, { accessFlags := 2, nameIndex := 22, descriptorIndex := 23, attributes := #[] }])
  fields := #[{ name := "assigned", type := .boolean, accessFlags := 2, slot := 0, constantValue := 0 }, { name := "local", type := .boolean, accessFlags := 2, slot := 1, constantValue := 0 }, { name := "slot", type := .int, accessFlags := 2, slot := 2, constantValue := 0 }, { name := "cell", type := (.object "com/example/minilingua/minilingua/lang/adpl/Value"), accessFlags := 2, slot := 3, constantValue := 0 }]
  methods := #[k2m0, k2m1, k2m2, k2m3, k2m4, k2m5, k2m6, k2m7, k2m8]
  instanceTypes := #[.boolean, .boolean, .int, (.object "com/example/minilingua/minilingua/lang/adpl/Value")]
  staticTypes := #[]
  resolved := Array.replicate 45 none
  statics := none }

def pool3 : Array CpInfo := pool [(1, .methodref 2 3), (0, .class_ 4), (0, .nameAndType 5 6), (0, u "java/lang/Object"), (0, u "<init>"), (0, u "()V"), (0, .fieldref 8 9), (0, .class_ 10), (0, .nameAndType 11 12), (0, u "com/example/minilingua/minilingua/lang/adpl/Value"), (0, u "kind"), (0, u "Lcom/example/minilingua/minilingua/lang/adpl/Value$Kind;"), (0, .fieldref 8 14), (0, .nameAndType 15 16), (0, u "bits"), (0, u "J"), (1, .class_ 20), (1, u "com/example/minilingua/minilingua/lang/adpl/Value$Kind"), (1, .methodref 8 23), (0, .nameAndType 5 24), (0, u "(Lcom/example/minilingua/minilingua/lang/adpl/Value$Kind;J)V"), (9, .fieldref 18 35), (0, .nameAndType 36 12), (0, u "POINTER"), (2, u "ONE"), (0, u "Lcom/example/minilingua/minilingua/lang/adpl/Value;"), (2, u "ZERO"), (2, u "KINDS"), (0, u "[Lcom/example/minilingua/minilingua/lang/adpl/Value$Kind;"), (10, u "NIL"), (48, u "(J)Lcom/example/minilingua/minilingua/lang/adpl/Value;"), (1, u "pointer")] 45

def k3c0 : Code := { maxStack := 3, maxLocals := 4, code := prog_91_method_1_code, exceptionTable := #[], attributes := #[] }
def k3m0 : Method := { name := "<init>", desc := "(Lcom/example/minilingua/minilingua/lang/adpl/Value$Kind;J)V", sig := { parameters := [(.object "com/example/minilingua/minilingua/lang/adpl/Value$Kind"), .long], returnType := none }, accessFlags := 2, code := some k3c0 }
def k3c1 : Code := { maxStack := 5, maxLocals := 2, code := prog_91_method_4_code, exceptionTable := #[], attributes := #[] }
def k3m1 : Method := { name := "pointer", desc := "(J)Lcom/example/minilingua/minilingua/lang/adpl/Value;", sig := { parameters := [.long], returnType := some (.object "com/example/minilingua/minilingua/lang/adpl/Value") }, accessFlags := 8, code := some k3c1 }
/-- com/example/minilingua/minilingua/lang/adpl/Value -/
def k3 : Class := { plain "com/example/minilingua/minilingua/lang/adpl/Value" (some 0) with
  accessFlags := 48
  interfaces := #[]
  cf := some (fileOf pool3 8 #[.nestMembers #[18]] #[{ accessFlags := 2, nameIndex := 5, descriptorIndex := 24, attributes := #[] }, { accessFlags := 8, nameIndex := 109, descriptorIndex := 107, attributes := #[] }] 48 2 #[] #[{ accessFlags := 26, nameIndex := 46, descriptorIndex := 47, attributes := #[] }, { accessFlags := 26, nameIndex := 43, descriptorIndex := 40, attributes := #[] }, { accessFlags := 26, nameIndex := 39, descriptorIndex := 40, attributes := #[] }, { accessFlags := 24, nameIndex := 58, descriptorIndex := 40, attributes := #[] }, { accessFlags := 18, nameIndex := 11, descriptorIndex := 12, attributes := #[] }, { accessFlags := 18, nameIndex := 15, descriptorIndex := 16, attributes := #[] }])
  fields := #[{ name := "KINDS", type := (.array (.object "com/example/minilingua/minilingua/lang/adpl/Value$Kind")), accessFlags := 26, slot := 0, constantValue := 0 }, { name := "ZERO", type := (.object "com/example/minilingua/minilingua/lang/adpl/Value"), accessFlags := 26, slot := 1, constantValue := 0 }, { name := "ONE", type := (.object "com/example/minilingua/minilingua/lang/adpl/Value"), accessFlags := 26, slot := 2, constantValue := 0 }, { name := "NIL", type := (.object "com/example/minilingua/minilingua/lang/adpl/Value"), accessFlags := 24, slot := 3, constantValue := 0 }, { name := "kind", type := (.object "com/example/minilingua/minilingua/lang/adpl/Value$Kind"), accessFlags := 18, slot := 0, constantValue := 0 }, { name := "bits", type := .long, accessFlags := 18, slot := 1, constantValue := 0 }]
  methods := #[k3m0, k3m1]
  instanceTypes := #[(.object "com/example/minilingua/minilingua/lang/adpl/Value$Kind"), .long]
  staticTypes := #[(.array (.object "com/example/minilingua/minilingua/lang/adpl/Value$Kind")), (.object "com/example/minilingua/minilingua/lang/adpl/Value"), (.object "com/example/minilingua/minilingua/lang/adpl/Value"), (.object "com/example/minilingua/minilingua/lang/adpl/Value")]
  resolved := Array.replicate 155 none
  statics := none }

def pool4 : Array CpInfo := pool [(1, .class_ 2), (0, u "java/lang/constant/Constable"), (0, .class_ 4), (0, u "java/lang/Object")] 6

/-- java/lang/constant/Constable -/
def k4 : Class := { plain "java/lang/constant/Constable" (some 0) with
  accessFlags := 1537
  interfaces := #[]
  cf := some (fileOf pool4 1 #[] #[] 1537 3 #[] #[])
  fields := #[]
  methods := #[]
  instanceTypes := #[]
  staticTypes := #[]
  resolved := Array.replicate 11 none
  statics := none }

def pool5 : Array CpInfo := pool [(1, .class_ 2), (0, u "java/lang/Comparable"), (0, .class_ 4), (0, u "java/lang/Object")] 7

/-- java/lang/Comparable -/
def k5 : Class := { plain "java/lang/Comparable" (some 0) with
  accessFlags := 1537
  interfaces := #[]
  cf := some (fileOf pool5 1 #[] #[] 1537 3 #[] #[])
  fields := #[]
  methods := #[]
  instanceTypes := #[]
  staticTypes := #[]
  resolved := Array.replicate 12 none
  statics := none }

def pool6 : Array CpInfo := pool [(1, .class_ 2), (0, u "java/io/Serializable"), (0, .class_ 4), (0, u "java/lang/Object")] 2

/-- java/io/Serializable -/
def k6 : Class := { plain "java/io/Serializable" (some 0) with
  accessFlags := 1537
  interfaces := #[]
  cf := some (fileOf pool6 1 #[] #[] 1537 3 #[] #[])
  fields := #[]
  methods := #[]
  instanceTypes := #[]
  staticTypes := #[]
  resolved := Array.replicate 7 none
  statics := none }

def pool7 : Array CpInfo := pool [(2, .class_ 4), (1, u "java/lang/Enum"), (0, u "name"), (0, u "Ljava/lang/String;"), (2, u "ordinal"), (0, u "I"), (1, .class_ 14), (1, u "java/lang/Object"), (4, u "hash"), (86, .class_ 108), (1, u "java/lang/Enum$EnumDesc"), (2, .class_ 112), (0, u "java/lang/constant/Constable"), (0, .class_ 114), (0, u "java/lang/Comparable"), (0, .class_ 116), (0, u "java/io/Serializable")] 87

/-- java/lang/Enum -/
def k7 : Class := { plain "java/lang/Enum" (some 0) with
  accessFlags := 1057
  interfaces := #[4, 5, 6]
  cf := some (fileOf pool7 2 #[.nestMembers #[106]] #[] 1057 12 #[111, 113, 115] #[{ accessFlags := 18, nameIndex := 5, descriptorIndex := 6, attributes := #[] }, { accessFlags := 18, nameIndex := 9, descriptorIndex := 10, attributes := #[] }, { accessFlags := 2, nameIndex := 19, descriptorIndex := 10, attributes := #[] }])
  fields := #[{ name := "name", type := (.object "java/lang/String"), accessFlags := 18, slot := 0, constantValue := 0 }, { name := "ordinal", type := .int, accessFlags := 18, slot := 1, constantValue := 0 }, { name := "hash", type := .int, accessFlags := 2, slot := 2, constantValue := 0 }]
  methods := #[]
  instanceTypes := #[(.object "java/lang/String"), .int, .int]
  staticTypes := #[]
  resolved := Array.replicate 204 none
  statics := none }

def pool8 : Array CpInfo := pool [(1, .class_ 2), (0, u "com/example/minilingua/minilingua/lang/adpl/Value$Kind"), (2, u "INT"), (0, u "Lcom/example/minilingua/minilingua/lang/adpl/Value$Kind;"), (2, u "FLOAT"), (2, u "POINTER"), (2, u "NIL"), (2, u "$VALUES"), (0, u "[Lcom/example/minilingua/minilingua/lang/adpl/Value$Kind;"), (6, .class_ 28), (1, u "java/lang/Enum"), (27, .class_ 57), (0, u "com/example/minilingua/minilingua/lang/adpl/Value")] 2

/-- com/example/minilingua/minilingua/lang/adpl/Value$Kind -/
def k8 : Class := { plain "com/example/minilingua/minilingua/lang/adpl/Value$Kind" (some 7) with
  accessFlags := 16432
  interfaces := #[]
  cf := some (fileOf pool8 1 #[.nestHost 56] #[] 16432 26 #[] #[{ accessFlags := 16409, nameIndex := 5, descriptorIndex := 6, attributes := #[] }, { accessFlags := 16409, nameIndex := 9, descriptorIndex := 6, attributes := #[] }, { accessFlags := 16409, nameIndex := 12, descriptorIndex := 6, attributes := #[] }, { accessFlags := 16409, nameIndex := 15, descriptorIndex := 6, attributes := #[] }, { accessFlags := 4122, nameIndex := 18, descriptorIndex := 19, attributes := #[] }])
  fields := #[{ name := "INT", type := (.object "com/example/minilingua/minilingua/lang/adpl/Value$Kind"), accessFlags := 16409, slot := 0, constantValue := 0 }, { name := "FLOAT", type := (.object "com/example/minilingua/minilingua/lang/adpl/Value$Kind"), accessFlags := 16409, slot := 1, constantValue := 0 }, { name := "POINTER", type := (.object "com/example/minilingua/minilingua/lang/adpl/Value$Kind"), accessFlags := 16409, slot := 2, constantValue := 0 }, { name := "NIL", type := (.object "com/example/minilingua/minilingua/lang/adpl/Value$Kind"), accessFlags := 16409, slot := 3, constantValue := 0 }, { name := "$VALUES", type := (.array (.object "com/example/minilingua/minilingua/lang/adpl/Value$Kind")), accessFlags := 4122, slot := 4, constantValue := 0 }]
  methods := #[]
  instanceTypes := #[(.object "java/lang/String"), .int, .int]
  staticTypes := #[(.object "com/example/minilingua/minilingua/lang/adpl/Value$Kind"), (.object "com/example/minilingua/minilingua/lang/adpl/Value$Kind"), (.object "com/example/minilingua/minilingua/lang/adpl/Value$Kind"), (.object "com/example/minilingua/minilingua/lang/adpl/Value$Kind"), (.array (.object "com/example/minilingua/minilingua/lang/adpl/Value$Kind"))]
  resolved := Array.replicate 60 none
  statics := some 0 }

def pool9 : Array CpInfo := pool [(1, u "java/lang/Cloneable"), (0, .class_ 1), (0, u "java/lang/Object"), (0, .class_ 3)] 3

/-- java/lang/Cloneable -/
def k9 : Class := { plain "java/lang/Cloneable" (some 0) with
  accessFlags := 1537
  interfaces := #[]
  cf := some (fileOf pool9 2 #[] #[] 1537 4 #[] #[])
  fields := #[]
  methods := #[]
  instanceTypes := #[]
  staticTypes := #[]
  resolved := Array.replicate 8 none
  statics := none }

/-- the primitive byte -/
def k10 : Class := { plain "byte" none with kind := .primitive 'B', accessFlags := 0x411 }
/-- [B -/
def k11 : Class := { plain "[B" (some 0) with kind := .array 10 .byte, interfaces := #[9, 6], accessFlags := 1041 }

/-- the primitive int -/
def k12 : Class := { plain "int" none with kind := .primitive 'I', accessFlags := 0x411 }
/-- [I -/
def k13 : Class := { plain "[I" (some 0) with kind := .array 12 .int, interfaces := #[9, 6], accessFlags := 1041 }

def heap : Heap := #[{ cls := 8, slots := #[.null, .null, .ref 1, .null, .null], vm := .statics 8 },
  { cls := 8, slots := #[.null, .int 0, .int 0], vm := .none }]
def classes : Array Class := #[k0, k1, k2, k3, k4, k5, k6, k7, k8, k9, k10, k11, k12, k13]
def interned : List (Array UInt16 × Addr) := []
def slotsUsed : Nat := 8
def theMethod : MethodId := ⟨1, 1⟩
def args0 : Array Value := #[.int 1, .int 2, .int 3, .long 4, .long 5]
def aboutOver (below : List Frame) : State where
  vm := { classes := classes, interned := interned.toArray }
  heap := heap
  slotsUsed := slotsUsed
  threads := #[{ frames := .invoking theMethod args0 :: below }]
def below0 : List Frame := [.native { method := ⟨0, 0⟩, args := #[] }]
def about1 : State := aboutOver below0
def p0 : Program := .bare "" "" ""
def e0 : Env := launch0.env 0 0 0
theorem w_frames : about1.frames = Frame.invoking theMethod args0 :: below0 := rfl
set_option maxRecDepth 65536 in
theorem w_args : argsFit about1.vm theMethod args0 = true := by decide +kernel
set_option maxRecDepth 65536 in
theorem w_heap : heapFits about1 = true := by decide +kernel
set_option maxRecDepth 65536 in
theorem w_runnable : about1.curStatus? = some .runnable := by decide +kernel
set_option maxRecDepth 65536 in
theorem w_alone : about1.alone = true := by decide +kernel
set_option maxRecDepth 65536 in
theorem w_named : about1.methodNamed? x = some theMethod := by decide +kernel
set_option maxRecDepth 65536 in
theorem w_hears : about1.hears theMethod below0 = true := by decide +kernel
set_option maxRecDepth 65536 in
theorem w_ripe : about1.ripe theMethod args0 below0 = true := by decide +kernel
theorem w_running : about1.status = .running := rfl
set_option maxRecDepth 65536 in
theorem w_room : about1.hasRoom e0.platform room_1 = true :=
  launch0.hasRoom_least _ room_1 (by decide +kernel) (by decide +kernel) (by decide +kernel) (by decide +kernel) (by decide +kernel) (by decide +kernel)
theorem allAtoms_all (ts : List Jvm.Cond) (a : Array Jvm.Value) (st : Jvm.State) : (allAtoms ts).before a st = ts.all (fun c => c.before a st) := by
  induction ts with
  | nil => rfl
  | cons c t ih =>
    show (Jvm.Cond.and c (allAtoms t)).before a st = _
    rw [Jvm.Cond.before_and, ih, List.all_cons]
def words1 : List Jvm.Cond := Jvm.Cond.code x code maxLocals ret :: tables_1
/-- a 'code' word, met by the world's own term for the bytes: nothing is compared byte by byte -/
theorem code_word {y : MethodName} {bytes : ByteArray} {mx : Nat} {rt : Option FieldType} {a : Array Value} {s : State} {m : MethodId} {meth : Method} {c : Code} (h1 : s.methodNamed? y = some m) (h2 : s.vm.method? m = some meth) (h3 : meth.code = some c) (h4 : c.code = bytes)
    (h5 : (c.maxLocals == mx && c.exceptionTable.isEmpty && decide (c.maxStack ≤ mostOperands) && decide (meth.sig.returnType = rt) && !meth.locks && decide (parseMethodDescriptor y.desc = some meth.sig)) = true) : (Jvm.Cond.code y bytes mx rt).before a s = true := by
  simp only [Bool.and_eq_true, beq_iff_eq, Bool.not_eq_true', decide_eq_true_eq] at h5
  obtain ⟨⟨⟨⟨⟨g1, g2⟩, g3⟩, g4⟩, g5⟩, g6⟩ := h5
  simp [Cond.before, Cond.holds, Cond.value, h1, h2, h3, h4, g1, g2, g3, g4, g5, g6]
def isCode : Jvm.Cond → Bool
  | .code _ _ _ _ => true
  | _ => false
theorem all_split {L : List Jvm.Cond} {P : Jvm.Cond → Bool} (h1 : L.all (fun c => isCode c || P c) = true) (h2 : ∀ c ∈ L.filter isCode, P c = true) : L.all P = true := by
  refine List.all_eq_true.mpr fun c hc => ?_
  have h := List.all_eq_true.mp h1 c hc
  rcases Bool.eq_false_or_eq_true (isCode c) with hi | hi
  · exact h2 c (List.mem_filter.mpr ⟨hc, hi⟩)
  · simpa [hi] using h
set_option maxRecDepth 65536 in
theorem w_c0 : (Jvm.Cond.code x code maxLocals ret).before args0 about1 = true := code_word (m := ⟨1, 1⟩) (meth := k1m1) (c := k1c1) (by decide +kernel) rfl rfl rfl (by decide +kernel)
set_option maxRecDepth 65536 in
theorem w_c1 : (Jvm.Cond.code ({ cls := "com/example/minilingua/minilingua/lang/adpl/Binding", name := "<init>", desc := "()V" } : Jvm.MethodName) prog_31_method_1_code (1 : Nat) (Option.none : Option Jvm.ClassFile.FieldType)).before args0 about1 = true := code_word (m := ⟨2, 0⟩) (meth := k2m0) (c := k2c0) (by decide +kernel) rfl rfl rfl (by decide +kernel)
set_option maxRecDepth 65536 in
theorem w_c2 : (Jvm.Cond.code ({ cls := "java/lang/Object", name := "<init>", desc := "()V" } : Jvm.MethodName) object_method_1_code (1 : Nat) (Option.none : Option Jvm.ClassFile.FieldType)).before args0 about1 = true := code_word (m := ⟨0, 0⟩) (meth := k0m0) (c := k0c0) (by decide +kernel) rfl rfl rfl (by decide +kernel)
set_option maxRecDepth 65536 in
theorem w_c3 : (Jvm.Cond.code ({ cls := "com/example/minilingua/minilingua/lang/adpl/Binding", name := "placeInSlot", desc := "(IZ)V" } : Jvm.MethodName) prog_31_method_6_code (3 : Nat) (Option.none : Option Jvm.ClassFile.FieldType)).before args0 about1 = true := code_word (m := ⟨2, 5⟩) (meth := k2m5) (c := k2c5) (by decide +kernel) rfl rfl rfl (by decide +kernel)
set_option maxRecDepth 65536 in
theorem w_c4 : (Jvm.Cond.code ({ cls := "com/example/minilingua/minilingua/lang/adpl/Binding", name := "placeAs", desc := "(Lcom/example/minilingua/minilingua/lang/adpl/Binding;)V" } : Jvm.MethodName) prog_31_method_9_code (2 : Nat) (Option.none : Option Jvm.ClassFile.FieldType)).before args0 about1 = true := code_word (m := ⟨2, 8⟩) (meth := k2m8) (c := k2c8) (by decide +kernel) rfl rfl rfl (by decide +kernel)
set_option maxRecDepth 65536 in
theorem w_c5 : (Jvm.Cond.code ({ cls := "com/example/minilingua/minilingua/lang/adpl/Binding", name := "cell", desc := "()Lcom/example/minilingua/minilingua/lang/adpl/Value;" } : Jvm.MethodName) prog_31_method_7_code (1 : Nat) (Option.some (Jvm.ClassFile.FieldType.object "com/example/minilingua/minilingua/lang/adpl/Value"))).before args0 about1 = true := code_word (m := ⟨2, 6⟩) (meth := k2m6) (c := k2c6) (by decide +kernel) rfl rfl rfl (by decide +kernel)
set_option maxRecDepth 65536 in
theorem w_c6 : (Jvm.Cond.code ({ cls := "com/example/minilingua/minilingua/lang/adpl/Binding", name := "assigned", desc := "()Z" } : Jvm.MethodName) prog_31_method_2_code (1 : Nat) (Option.some Jvm.ClassFile.FieldType.boolean)).before args0 about1 = true := code_word (m := ⟨2, 1⟩) (meth := k2m1) (c := k2c1) (by decide +kernel) rfl rfl rfl (by decide +kernel)
set_option maxRecDepth 65536 in
theorem w_c7 : (Jvm.Cond.code ({ cls := "com/example/minilingua/minilingua/lang/adpl/Binding", name := "isLocal", desc := "()Z" } : Jvm.MethodName) prog_31_method_4_code (1 : Nat) (Option.some Jvm.ClassFile.FieldType.boolean)).before args0 about1 = true := code_word (m := ⟨2, 3⟩) (meth := k2m3) (c := k2c3) (by decide +kernel) rfl rfl rfl (by decide +kernel)
set_option maxRecDepth 65536 in
theorem w_c8 : (Jvm.Cond.code ({ cls := "com/example/minilingua/minilingua/lang/adpl/Binding", name := "slot", desc := "()I" } : Jvm.MethodName) prog_31_method_5_code (1 : Nat) (Option.some Jvm.ClassFile.FieldType.int)).before args0 about1 = true := code_word (m := ⟨2, 4⟩) (meth := k2m4) (c := k2c4) (by decide +kernel) rfl rfl rfl (by decide +kernel)
set_option maxRecDepth 65536 in
theorem w_c9 : (Jvm.Cond.code ({ cls := "com/example/minilingua/minilingua/lang/adpl/Binding", name := "markAssigned", desc := "()V" } : Jvm.MethodName) prog_31_method_3_code (1 : Nat) (Option.none : Option Jvm.ClassFile.FieldType)).before args0 about1 = true := code_word (m := ⟨2, 2⟩) (meth := k2m2) (c := k2c2) (by decide +kernel) rfl rfl rfl (by decide +kernel)
set_option maxRecDepth 65536 in
theorem w_c10 : (Jvm.Cond.code ({ cls := "com/example/minilingua/minilingua/lang/adpl/Binding", name := "placeInCell", desc := "(J)V" } : Jvm.MethodName) prog_31_method_8_code (3 : Nat) (Option.none : Option Jvm.ClassFile.FieldType)).before args0 about1 = true := code_word (m := ⟨2, 7⟩) (meth := k2m7) (c := k2c7) (by decide +kernel) rfl rfl rfl (by decide +kernel)
set_option maxRecDepth 65536 in
theorem w_c11 : (Jvm.Cond.code ({ cls := "com/example/minilingua/minilingua/lang/adpl/Value", name := "pointer", desc := "(J)Lcom/example/minilingua/minilingua/lang/adpl/Value;" } : Jvm.MethodName) prog_91_method_4_code (2 : Nat) (Option.some (Jvm.ClassFile.FieldType.object "com/example/minilingua/minilingua/lang/adpl/Value"))).before args0 about1 = true := code_word (m := ⟨3, 1⟩) (meth := k3m1) (c := k3c1) (by decide +kernel) rfl rfl rfl (by decide +kernel)
set_option maxRecDepth 65536 in
theorem w_c12 : (Jvm.Cond.code ({ cls := "com/example/minilingua/minilingua/lang/adpl/Value", name := "<init>", desc := "(Lcom/example/minilingua/minilingua/lang/adpl/Value$Kind;J)V" } : Jvm.MethodName) prog_91_method_1_code (4 : Nat) (Option.none : Option Jvm.ClassFile.FieldType)).before args0 about1 = true := code_word (m := ⟨3, 0⟩) (meth := k3m0) (c := k3c0) (by decide +kernel) rfl rfl rfl (by decide +kernel)
def codes1 : List Jvm.Cond := [Jvm.Cond.code x code maxLocals ret, Jvm.Cond.code ({ cls := "com/example/minilingua/minilingua/lang/adpl/Binding", name := "<init>", desc := "()V" } : Jvm.MethodName) prog_31_method_1_code (1 : Nat) (Option.none : Option Jvm.ClassFile.FieldType), Jvm.Cond.code ({ cls := "java/lang/Object", name := "<init>", desc := "()V" } : Jvm.MethodName) object_method_1_code (1 : Nat) (Option.none : Option Jvm.ClassFile.FieldType), Jvm.Cond.code ({ cls := "com/example/minilingua/minilingua/lang/adpl/Binding", name := "placeInSlot", desc := "(IZ)V" } : Jvm.MethodName) prog_31_method_6_code (3 : Nat) (Option.none : Option Jvm.ClassFile.FieldType), Jvm.Cond.code ({ cls := "com/example/minilingua/minilingua/lang/adpl/Binding", name := "placeAs", desc := "(Lcom/example/minilingua/minilingua/lang/adpl/Binding;)V" } : Jvm.MethodName) prog_31_method_9_code (2 : Nat) (Option.none : Option Jvm.ClassFile.FieldType), Jvm.Cond.code ({ cls := "com/example/minilingua/minilingua/lang/adpl/Binding", name := "cell", desc := "()Lcom/example/minilingua/minilingua/lang/adpl/Value;" } : Jvm.MethodName) prog_31_method_7_code (1 : Nat) (Option.some (Jvm.ClassFile.FieldType.object "com/example/minilingua/minilingua/lang/adpl/Value")), Jvm.Cond.code ({ cls := "com/example/minilingua/minilingua/lang/adpl/Binding", name := "assigned", desc := "()Z" } : Jvm.MethodName) prog_31_method_2_code (1 : Nat) (Option.some Jvm.ClassFile.FieldType.boolean), Jvm.Cond.code ({ cls := "com/example/minilingua/minilingua/lang/adpl/Binding", name := "isLocal", desc := "()Z" } : Jvm.MethodName) prog_31_method_4_code (1 : Nat) (Option.some Jvm.ClassFile.FieldType.boolean), Jvm.Cond.code ({ cls := "com/example/minilingua/minilingua/lang/adpl/Binding", name := "slot", desc := "()I" } : Jvm.MethodName) prog_31_method_5_code (1 : Nat) (Option.some Jvm.ClassFile.FieldType.int), Jvm.Cond.code ({ cls := "com/example/minilingua/minilingua/lang/adpl/Binding", name := "markAssigned", desc := "()V" } : Jvm.MethodName) prog_31_method_3_code (1 : Nat) (Option.none : Option Jvm.ClassFile.FieldType), Jvm.Cond.code ({ cls := "com/example/minilingua/minilingua/lang/adpl/Binding", name := "placeInCell", desc := "(J)V" } : Jvm.MethodName) prog_31_method_8_code (3 : Nat) (Option.none : Option Jvm.ClassFile.FieldType), Jvm.Cond.code ({ cls := "com/example/minilingua/minilingua/lang/adpl/Value", name := "pointer", desc := "(J)Lcom/example/minilingua/minilingua/lang/adpl/Value;" } : Jvm.MethodName) prog_91_method_4_code (2 : Nat) (Option.some (Jvm.ClassFile.FieldType.object "com/example/minilingua/minilingua/lang/adpl/Value")), Jvm.Cond.code ({ cls := "com/example/minilingua/minilingua/lang/adpl/Value", name := "<init>", desc := "(Lcom/example/minilingua/minilingua/lang/adpl/Value$Kind;J)V" } : Jvm.MethodName) prog_91_method_1_code (4 : Nat) (Option.none : Option Jvm.ClassFile.FieldType)]
set_option maxRecDepth 65536 in
theorem codes_eq : words1.filter isCode = codes1 := rfl
theorem w_codes : ∀ c ∈ words1.filter isCode, c.before args0 about1 = true := by
  rw [codes_eq]
  intro c hc
  simp only [codes1, List.mem_cons, List.not_mem_nil, or_false] at hc
  rcases hc with rfl | rfl | rfl | rfl | rfl | rfl | rfl | rfl | rfl | rfl | rfl | rfl | rfl
  · exact w_c0
  · exact w_c1
  · exact w_c2
  · exact w_c3
  · exact w_c4
  · exact w_c5
  · exact w_c6
  · exact w_c7
  · exact w_c8
  · exact w_c9
  · exact w_c10
  · exact w_c11
  · exact w_c12
set_option maxRecDepth 65536 in
theorem w_t1 : (words1.take 24).all (fun c => isCode c || c.before args0 about1) = true := by decide +kernel
set_option maxRecDepth 65536 in
theorem w_t2 : ((words1.drop 24).take 24).all (fun c => isCode c || c.before args0 about1) = true := by decide +kernel
set_option maxRecDepth 65536 in
theorem w_t3 : (((words1.drop 24).drop 24).take 24).all (fun c => isCode c || c.before args0 about1) = true := by decide +kernel
set_option maxRecDepth 65536 in
theorem w_t4 : (((words1.drop 24).drop 24).drop 24).all (fun c => isCode c || c.before args0 about1) = true := by decide +kernel
theorem w_tables : (allAtoms (Jvm.Cond.code x code maxLocals ret :: tables_1)).before args0 about1 = true := by
  rw [allAtoms_all]
  show words1.all (fun c => c.before args0 about1) = true
  refine all_split ?_ w_codes
  rw [← List.take_append_drop 24 words1, List.all_append, w_t1, ← List.take_append_drop 24 (words1.drop 24), List.all_append, w_t2, ← List.take_append_drop 24 ((words1.drop 24).drop 24), List.all_append, w_t3, w_t4]
  rfl
set_option maxRecDepth 65536 in
theorem w_case : (Jvm.Cond.and given_1 narrow_1).before args0 about1 = true := by decide +kernel
theorem w_applies : (headSpec (Jvm.Cond.code x code maxLocals ret :: tables_1) room_1).applies x e0.platform about1 = true :=
  (Spec.applies_iff w_frames).mpr ⟨w_running, w_runnable, w_alone, w_named, w_hears, w_ripe, w_room, w_tables⟩
theorem atStart : AtStart classFile x code maxLocals ret World_1 tables_1 room_1 Calls_1 rest_1 Pre_1 launch0 p0 e0 about1 theMethod args0 below0 :=
  ⟨lists_1, trivial, launch0.admits_env _ _ _, launch0.least_env, fairChoices_fair.cas, fairChoices_fair.clock, w_frames, w_args, w_heap, w_applies, trivial, trivial, w_case⟩
end start1
theorem witness_1 : WitnessClaimed_1 := ⟨start1.p0, start1.e0, start1.about1, start1.theMethod, start1.args0, start1.below0, start1.atStart⟩
end Jvm.Pilot.@@N@@
