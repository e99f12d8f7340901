import JvmDerived
import JvmDerived.Pilot.@@N@@Statement
import JvmDerived.Pilot.@@N@@Code
set_option linter.unusedVariables false
set_option linter.unusedSimpArgs false
namespace Jvm.Pilot.@@N@@
open Jvm Jvm.ClassFile Sem Op Lib Jvm.Free Jvm.Stand Jvm.LawKit Jvm.RoadKit Bundle Jvm.Pilot.@@N@@.Jvm.D
/-- from U the run comes to a state of which K holds -/
def own_Go (tb : Tables) (e : Env) (below : List Frame) (K : State → Prop) (U : State) : Prop := ∃ t, Steps tb e below U t ∧ K t
theorem own_by {tb : Tables} {e : Env} {below : List Frame} {K : State → Prop} {U U' : State} (k : ∀ t, Steps tb e below U' t → Steps tb e below U t) (h : own_Go tb e below K U') : own_Go tb e below K U := by
  obtain ⟨t, a, b⟩ := h
  exact ⟨t, k t a, b⟩
/-- what a returning instruction needs: the frames that it leaves, and that K holds there -/
def own_Out (e : Env) (m : MethodId) (K : State → Prop) (T : State) (v : Option Value) : Prop := ∃ fs, (∀ (f : JFrame) (acts : List Action), f.method = m → f.locked = none → f.entered = [] → (doReturn e (T.setTop f) acts v).1 = T.setFrames fs) ∧ K (T.setFrames fs)
theorem own_met {l : Launch} {y : MethodName} {bytes : ByteArray} {ml : Nat} {ret : Option FieldType} {ws : List Jvm.Cond} {rm : Room} {as' : Array Value} {Z : State} {h0 : Heap} {k n : Nat} {Q : Option Value → Heap → List Loc → Prop} (hp : plainFor y = true)
    (body : ∀ (p : Program) (e : Env) (s : State) (m : MethodId) (below : List Frame) (meth : Method) (c : Code) (s₁ : State) (K : State → Prop), p.tables.exec = Jvm.exec → c.code = bytes → c.maxLocals = ml → s.vm.findClass y.cls = some m.cls → meth.name = y.name → meth.sig.returnType = ret →
      Z.Warmed39 s.vm → Stand p l e rm s m as' below meth c s₁ [] 0 0 → s₁.heap = h0 →
      (∀ (v : Option Value) {T : State} {L : List Loc} {k' n' : Nat}, Stand p l e rm s m as' below meth c T L k' n' → (meth.sig.returnType = none → v = none) → Q v T.heap L → k' ≤ k → n' ≤ n → own_Out e m K T v) →
      own_Go p.tables e below K (s₁.setTop (entryFrame m as' ml))) :
    MetFree l y (head1 (Jvm.Cond.code y bytes ml ret :: ws) rm) (fun a U => a = as' ∧ Z.Warmed39 U.vm ∧ U.heap = h0) (fun _ _ _ _ _ => True) (fun _ U o U' => ∃ v L, o = .returned v ∧ Q v U'.heap L ∧ FrameEnd U o U' L k n) := by
  refine MetFree.of_bodySF hp hisR ?_
  intro p e s m args below meth c s₁ Bd hml0 hP hK
  obtain ⟨rfl, hZ, hh⟩ := hP
  have hown : s.vm.findClass y.cls = some m.cls := findClass_of_methodNamed Bd.named
  obtain ⟨t, hs, o, h1, h2, h3⟩ := body p e s m below meth c s₁ (fun t => ∃ o, t.status = .running ∧ Ended t below o ∧ ∃ v L, o = .returned v ∧ Q v t.heap L ∧ FrameEnd s o t L k n) Bd.exec Bd.bytes hml0 hown (name_of_methodNamed Bd.named Bd.method).1 Bd.returns hZ (Stand.of_body Bd) (by rw [← hh, Bd.state]; rfl) (by
    intro v T L k' n' X hv hq hk hn
    obtain ⟨fs, hr, hrun, hended, hW, hsame⟩ := X.leave (v := v) hv
    exact ⟨fs, hr, _, hrun, hended, v, L, rfl, hq, ⟨_, rfl⟩, hW, hsame.mono hk hn⟩)
  exact ⟨t, o, hs, h1, h2, h3⟩
section OwnRet
variable {p : Program} {l : Launch} {e : Env} {R : Room} {s : State} {m : MethodId} {args : Array Value} {below : List Frame} {meth : Method} {c : Code} {T : State} {locs : List Loc} {cells slots : Nat} {K : State → Prop}
theorem own_retI (X : Stand p l e R s m args below meth c T locs cells slots) (hx : p.tables.exec = Jvm.exec) (hret : meth.sig.returnType = some .int) {pc : Nat} {Ls : Array Slot} {z : Int32} {rest : List Value} (hd : decode c.code pc = .ok (.ireturn, 1)) (hq : own_Out e m K T (some (.int z))) : own_Go p.tables e below K (T.setTop (mkF m pc Ls (.int z :: rest))) := by
  obtain ⟨fs, hr, hk⟩ := hq
  exact ⟨_, retOut X hx hret rfl (Or.inl ⟨rfl, Or.inl rfl, _, rfl⟩) hd hr, hk⟩
theorem own_retZ (X : Stand p l e R s m args below meth c T locs cells slots) (hx : p.tables.exec = Jvm.exec) {t : FieldType} (hret : meth.sig.returnType = some t) (ht : t = .boolean ∨ t = .byte ∨ t = .char ∨ t = .short) {pc : Nat} {Ls : Array Slot} {z : Int32} {rest : List Value} (hd : decode c.code pc = .ok (.ireturn, 1)) (hq : own_Out e m K T (some (.int (nar t z)))) : own_Go p.tables e below K (T.setTop (mkF m pc Ls (.int z :: rest))) := by
  obtain ⟨fs, hr, hk⟩ := hq
  exact ⟨_, retN X hx hret ht hd hr, hk⟩
theorem own_retJ (X : Stand p l e R s m args below meth c T locs cells slots) (hx : p.tables.exec = Jvm.exec) (hret : meth.sig.returnType = some .long) {pc : Nat} {Ls : Array Slot} {z : Int64} {rest : List Value} (hd : decode c.code pc = .ok (.lreturn, 1)) (hq : own_Out e m K T (some (.long z))) : own_Go p.tables e below K (T.setTop (mkF m pc Ls (.long z :: rest))) := by
  obtain ⟨fs, hr, hk⟩ := hq
  exact ⟨_, retOut X hx hret rfl (Or.inr (Or.inl ⟨rfl, rfl, _, rfl⟩)) hd hr, hk⟩
theorem own_retA (X : Stand p l e R s m args below meth c T locs cells slots) (hx : p.tables.exec = Jvm.exec) {t : FieldType} (hret : meth.sig.returnType = some t) (ht : t.isReference = true) {pc : Nat} {Ls : Array Slot} {w : Value} {rest : List Value} (hn : narrow t w = w) (hw : w.isRef = true) (hd : decode c.code pc = .ok (.areturn, 1)) (hq : own_Out e m K T (some w)) : own_Go p.tables e below K (T.setTop (mkF m pc Ls (w :: rest))) := by
  obtain ⟨fs, hr, hk⟩ := hq
  exact ⟨_, retOut X hx hret hn (Or.inr (Or.inr (Or.inr (Or.inr ⟨rfl, ht, hw⟩)))) hd hr, hk⟩
theorem own_retV (X : Stand p l e R s m args below meth c T locs cells slots) (hx : p.tables.exec = Jvm.exec) (hret : meth.sig.returnType = none) {pc : Nat} {Ls : Array Slot} (hd : decode c.code pc = .ok (.return_, 1)) (hq : own_Out e m K T none) : own_Go p.tables e below K (T.setTop (mkF m pc Ls [])) := by
  obtain ⟨fs, hr, hk⟩ := hq
  exact ⟨_, X.returnOut hx hret hd hr, hk⟩
end OwnRet
theorem own_nar {C : String} {w : Value} (h : w.isRef = true) : narrow (.object C) w = w := by cases w <;> rfl
theorem own_fit {C : String} {w : Value} (h : w.isRef = true) : fits (.object C) w = true := by cases w <;> first | rfl | (simp [Value.isRef] at h)
theorem own_more {p : Program} {l : Launch} {e : Env} {R : Room} {s : State} {m : MethodId} {args : Array Value} {below : List Frame} {meth : Method} {c : Code} {T : State} {locs : List Loc} {k n k' n' : Nat} (X : Stand p l e R s m args below meth c T locs k n) (hk : k ≤ k') (hn : n ≤ n') : Stand p l e R s m args below meth c T locs k' n' := { X with same := X.same.mono hk hn }
/-- a condition as 0 or 1 -/
def own_tern (x : Int32) : Int32 := if x = 0 then 0 else 1
theorem own_t0 {x : Int32} (h : x = 0) : own_tern x = 0 := if_pos h
theorem own_t1 {x : Int32} (h : ¬ x = 0) : own_tern x = 1 := if_neg h
theorem own_t01 (x : Int32) : own_tern x = 0 ∨ own_tern x = 1 := by unfold own_tern; split <;> simp
theorem own_nb {x : Int32} (h : x = 0 ∨ x = 1) : nar .boolean x = x := by rcases h with rfl | rfl <;> rfl
theorem own_b53 (x : Int32) : B53 x.toInt64 := by
  have h1 := x.toInt_lt; have h2 := x.le_toInt
  unfold B53
  rw [Int32.toInt_toInt64]
  omega
theorem own_i64 (x y : Int32) : x.toInt64 < y.toInt64 ↔ x < y := by rw [Int64.lt_iff_toInt_lt, Int32.lt_iff_toInt_lt, Int32.toInt_toInt64, Int32.toInt_toInt64]
theorem own_ni {x y : Int32} (h : ¬ x = y) {n : Int} (e : y.toInt = n) : ¬ x.toInt = n := fun q => h (Int32.toInt_inj.mp (q.trans e.symm))
theorem own_llt {x y : Int64} (h : x < y) : ifCond.holds .lt (lcmpW x y) = true ∧ ifCond.holds .ge (lcmpW x y) = false := by
  have q := tlt (by rw [lcW]; exact (lc_lt x y).mpr h : lcmpW x y < 0)
  exact ⟨(if0 _ _).trans q.1, (if0 _ _).trans q.2.1⟩
theorem own_lge {x y : Int64} (h : ¬ x < y) : ifCond.holds .lt (lcmpW x y) = false ∧ ifCond.holds .ge (lcmpW x y) = true := by
  have q := flt (by rw [lcW]; exact fun z => h ((lc_lt x y).mp z) : ¬ lcmpW x y < 0)
  exact ⟨(if0 _ _).trans q.1, (if0 _ _).trans q.2.1⟩
theorem own_lgt {x y : Int64} (h : y < x) : ifCond.holds .gt (lcmpW x y) = true ∧ ifCond.holds .le (lcmpW x y) = false := by
  have q := tlt (by rw [lcW]; exact (lc_gt x y).mpr h : 0 < lcmpW x y)
  exact ⟨(if0 _ _).trans q.2.2.1, (if0 _ _).trans q.2.2.2⟩
theorem own_lle {x y : Int64} (h : ¬ y < x) : ifCond.holds .gt (lcmpW x y) = false ∧ ifCond.holds .le (lcmpW x y) = true := by
  have q := flt (by rw [lcW]; exact fun z => h ((lc_gt x y).mp z) : ¬ 0 < lcmpW x y)
  exact ⟨(if0 _ _).trans q.2.2.1, (if0 _ _).trans q.2.2.2⟩
theorem own_leq {x y : Int64} (h : x = y) : ifCond.holds .eq (lcmpW x y) = true ∧ ifCond.holds .ne (lcmpW x y) = false := by
  have q := teq (by rw [lcW]; exact (lc_eq x y).mpr h : lcmpW x y = 0)
  exact ⟨(if0 _ _).trans q.1, (if0 _ _).trans q.2⟩
theorem own_lne {x y : Int64} (h : ¬ x = y) : ifCond.holds .eq (lcmpW x y) = false ∧ ifCond.holds .ne (lcmpW x y) = true := by
  have q := feq (by rw [lcW]; exact fun z => h ((lc_eq x y).mp z) : ¬ lcmpW x y = 0)
  exact ⟨(if0 _ _).trans q.1, (if0 _ _).trans q.2⟩
def own_a (x : Int64) : Int64 := x >>> ((2 : Int32) &&& 0x3f).toInt64
def own_b (x : Int64) : Int64 := (x.toUInt64 >>> ((4 : Int32) &&& 0x3f).toInt64.toUInt64).toInt64
theorem own_a_b (x : Int64) : -2^61 ≤ (own_a x).toInt ∧ (own_a x).toInt < 2^61 := by
  have e : ((2 : Int32) &&& 0x3f).toInt64 = (2 : Int64) := by decide
  have h1 := x.toInt_lt; have h2 := x.le_toInt
  unfold own_a
  rw [e, ← Int64.toInt_toBitVec, Int64.toBitVec_shiftRight, BitVec.toInt_sshiftRight']
  have e2 : ((2 : Int64).toBitVec.smod 64).toNat = 2 := by decide
  rw [e2, Int.shiftRight_eq_div_pow, Int64.toInt_toBitVec]
  omega
theorem own_b_b (x : Int64) : 0 ≤ (own_b x).toInt ∧ (own_b x).toInt < 2^60 := by
  have e : ((4 : Int32) &&& 0x3f).toInt64.toUInt64 = (4 : UInt64) := by decide
  unfold own_b
  rw [e]
  have h1 := x.toUInt64.toNat_lt
  have h2 : (x.toUInt64 >>> (4 : UInt64)).toNat = x.toUInt64.toNat / 16 := by
    rw [UInt64.toNat_shiftRight]; simp [Nat.shiftRight_eq_div_pow]
  have h3 : (x.toUInt64 >>> (4 : UInt64)).toInt64.toInt = (x.toUInt64 >>> (4 : UInt64)).toNat := by
    rw [← Int64.toInt_toBitVec, BitVec.toInt_eq_toNat_cond]
    show (if 2 * (x.toUInt64 >>> (4 : UInt64)).toNat < 2^64 then _ else _) = _
    rw [if_pos (by omega)]
    rfl
  rw [h3, h2]; omega
theorem own_add {x y : Int64} (h1 : -2^63 ≤ x.toInt + y.toInt) (h2 : x.toInt + y.toInt < 2^63) : (x + y).toInt = x.toInt + y.toInt := by
  rw [Int64.toInt_add]; exact Int.bmod_eq_of_le (by omega) (by omega)
theorem own_sub {x y : Int64} (h1 : -2^63 ≤ x.toInt - y.toInt) (h2 : x.toInt - y.toInt < 2^63) : (x - y).toInt = x.toInt - y.toInt := by
  rw [Int64.toInt_sub]; exact Int.bmod_eq_of_le (by omega) (by omega)
def own_sep (a ae b be g : Int64) : Int32 := if ¬ (b - ae < g) ∨ ¬ (a - be < g) then 1 else 0
def own_ex (a ae b be g : Int64) : Int32 := if a < b then (if b < ae + g then 0 else 1) else if b < a then (if a < be + g then 0 else 1) else if ¬ (b < ae + g) ∨ ¬ (a < be + g) then 1 else 0
theorem own_law (q1 q2 q3 q4 q5 : Int64) : own_sep (own_a q1) (own_a q1 + own_b q2) (own_a q3) (own_a q3 + own_b q4) (own_b q5) = own_ex (own_a q1) (own_a q1 + own_b q2) (own_a q3) (own_a q3 + own_b q4) (own_b q5) := by
  have a1 := own_a_b q1; have a3 := own_a_b q3; have b2 := own_b_b q2; have b4 := own_b_b q4; have b5 := own_b_b q5
  generalize own_a q1 = a at *; generalize own_a q3 = b at *; generalize own_b q2 = la at *; generalize own_b q4 = lb at *; generalize own_b q5 = g at *
  have e1 : (a + la).toInt = a.toInt + la.toInt := own_add (by omega) (by omega)
  have e2 : (b + lb).toInt = b.toInt + lb.toInt := own_add (by omega) (by omega)
  have e3 : (a + la + g).toInt = a.toInt + la.toInt + g.toInt := by rw [own_add (by omega) (by omega), e1]
  have e4 : (b + lb + g).toInt = b.toInt + lb.toInt + g.toInt := by rw [own_add (by omega) (by omega), e2]
  have e5 : (b - (a + la)).toInt = b.toInt - (a.toInt + la.toInt) := by rw [own_sub (by omega) (by omega), e1]
  have e6 : (a - (b + lb)).toInt = a.toInt - (b.toInt + lb.toInt) := by rw [own_sub (by omega) (by omega), e2]
  unfold own_sep own_ex
  simp only [Int64.lt_iff_toInt_lt, e3, e4, e5, e6]
  repeat' split
  all_goals first | rfl | (exfalso; omega)
theorem own_pn1 : plainName "com/example/skyroster/skyroster/Rules" = true := by first | (simp [plainName, overriddenIn]; done) | decide +kernel
theorem own_d1_0 : decode prog_13_method_4_code 0 = .ok (.lload 4, 2) := by decide +kernel
theorem own_d1_2 : decode prog_13_method_4_code 2 = .ok (.lload_n 2, 1) := by decide +kernel
theorem own_d1_3 : decode prog_13_method_4_code 3 = .ok (.lsub, 1) := by decide +kernel
theorem own_d1_4 : decode prog_13_method_4_code 4 = .ok (.lload 8, 2) := by decide +kernel
theorem own_d1_6 : decode prog_13_method_4_code 6 = .ok (.lcmp, 1) := by decide +kernel
theorem own_d1_7 : decode prog_13_method_4_code 7 = .ok (.ifCond .ge 13, 3) := by decide +kernel
theorem own_d1_10 : decode prog_13_method_4_code 10 = .ok (.lload_n 0, 1) := by decide +kernel
theorem own_d1_11 : decode prog_13_method_4_code 11 = .ok (.lload 6, 2) := by decide +kernel
theorem own_d1_13 : decode prog_13_method_4_code 13 = .ok (.lsub, 1) := by decide +kernel
theorem own_d1_14 : decode prog_13_method_4_code 14 = .ok (.lload 8, 2) := by decide +kernel
theorem own_d1_16 : decode prog_13_method_4_code 16 = .ok (.lcmp, 1) := by decide +kernel
theorem own_d1_17 : decode prog_13_method_4_code 17 = .ok (.ifCond .lt 7, 3) := by decide +kernel
theorem own_d1_20 : decode prog_13_method_4_code 20 = .ok (.iconst 1, 1) := by decide +kernel
theorem own_d1_21 : decode prog_13_method_4_code 21 = .ok (.goto 4, 3) := by decide +kernel
theorem own_d1_24 : decode prog_13_method_4_code 24 = .ok (.iconst 0, 1) := by decide +kernel
theorem own_d1_25 : decode prog_13_method_4_code 25 = .ok (.ireturn, 1) := by decide +kernel
theorem own_ef1 (m : MethodId) (q1 : Int64) (q2 : Int64) (q3 : Int64) (q4 : Int64) (q5 : Int64) : entryFrame m #[(.long q1), (.long q2), (.long q3), (.long q4), (.long q5)] 10 = mkF m 0 #[.val (.long q1), .second, .val (.long q2), .second, .val (.long q3), .second, .val (.long q4), .second, .val (.long q5), .second] [] := by first | (simp [entryFrame, mkF, argsToLocals, Value.category]; done) | rfl
def own_Q1 (Z : State) (q1 : Int64) (q2 : Int64) (q3 : Int64) (q4 : Int64) (q5 : Int64) (h0 : Heap) (n0 : Nat) (v : Option Value) (h : Heap) (L : List Loc) : Prop := v = some (.int (own_sep q1 q2 q3 q4 q5)) ∧ Fr n0 L ∧ h = h0
set_option maxRecDepth 65536 in
set_option maxHeartbeats 40000000 in
theorem own_rm1 (l : Launch) (Z : State) (a0 : Array Value) (hw : ∀ d ∈ tables_1, d.before a0 Z = true) (ws : List Jvm.Cond) (q1 : Int64) (q2 : Int64) (q3 : Int64) (q4 : Int64) (q5 : Int64) (h0 : Heap) (n0 : Nat) (Z0 : n0 ≤ h0.size)  :
    MetFree l (⟨"com/example/skyroster/skyroster/Rules", "separated", "(JJJJJ)Z"⟩ : MethodName) (head1 (Jvm.Cond.code (⟨"com/example/skyroster/skyroster/Rules", "separated", "(JJJJJ)Z"⟩ : MethodName) prog_13_method_4_code 10 (some .boolean) :: ws) ({ frames := 0, cells := 0, slots := 0, locals := 0 } : Room)) (fun a U => a = #[(.long q1), (.long q2), (.long q3), (.long q4), (.long q5)] ∧ Z.Warmed39 U.vm ∧ U.heap = h0) (fun _ _ _ _ _ => True) (fun _ U o U' => ∃ v L, o = .returned v ∧ own_Q1 Z q1 q2 q3 q4 q5 h0 n0 v U'.heap L ∧ FrameEnd U o U' L ({ frames := 0, cells := 0, slots := 0, locals := 0 } : Room).cells ({ frames := 0, cells := 0, slots := 0, locals := 0 } : Room).slots) := by
  refine own_met (Q := own_Q1 Z q1 q2 q3 q4 q5 h0 n0) (plainFor_of_name own_pn1) ?_
  intro p e s m below meth c s₁ K hx hby hml hown hnm hret hZ X0 e0 hK
  have hown : s.vm.findClass "com/example/skyroster/skyroster/Rules" = some m.cls := hown
  have N0 := Fr.nil n0
  refine own_by (fun t k => castTop (own_ef1 m q1 q2 q3 q4 q5) k) ?_
  show own_Go p.tables e below K (s₁.setTop (mkF m 0 #[.val (.long q1), .second, .val (.long q2), .second, .val (.long q3), .second, .val (.long q4), .second, .val (.long q5), .second] []))
  refine own_by (fun t k => XS.lload X0.here hx rfl (hb hby own_d1_0) rfl k) ?_
  show own_Go p.tables e below K (s₁.setTop (mkF m 2 #[.val (.long q1), .second, .val (.long q2), .second, .val (.long q3), .second, .val (.long q4), .second, .val (.long q5), .second] [(.long q3)]))
  refine own_by (fun t k => XS.lloadN X0.here hx rfl (hb hby own_d1_2) rfl k) ?_
  show own_Go p.tables e below K (s₁.setTop (mkF m 3 #[.val (.long q1), .second, .val (.long q2), .second, .val (.long q3), .second, .val (.long q4), .second, .val (.long q5), .second] [(.long q2), (.long q3)]))
  refine own_by (fun t k => XS.lsub X0.here hx rfl (hb hby own_d1_3) rfl k) ?_
  show own_Go p.tables e below K (s₁.setTop (mkF m 4 #[.val (.long q1), .second, .val (.long q2), .second, .val (.long q3), .second, .val (.long q4), .second, .val (.long q5), .second] [(.long (q3 - q2))]))
  refine own_by (fun t k => XS.lload X0.here hx rfl (hb hby own_d1_4) rfl k) ?_
  show own_Go p.tables e below K (s₁.setTop (mkF m 6 #[.val (.long q1), .second, .val (.long q2), .second, .val (.long q3), .second, .val (.long q4), .second, .val (.long q5), .second] [(.long q5), (.long (q3 - q2))]))
  refine own_by (fun t k => XS.lcmp X0.here hx rfl (hb hby own_d1_6) rfl k) ?_
  show own_Go p.tables e below K (s₁.setTop (mkF m 7 #[.val (.long q1), .second, .val (.long q2), .second, .val (.long q3), .second, .val (.long q4), .second, .val (.long q5), .second] [(.int (lcmpW (q3 - q2) q5))]))
  by_cases hc7 : (q3 - q2) < q5
  · refine own_by (fun t k => XS.ifNo X0.here hx rfl (hb hby own_d1_7) rfl (own_llt hc7).2 k) ?_
    show own_Go p.tables e below K (s₁.setTop (mkF m 10 #[.val (.long q1), .second, .val (.long q2), .second, .val (.long q3), .second, .val (.long q4), .second, .val (.long q5), .second] []))
    refine own_by (fun t k => XS.lloadN X0.here hx rfl (hb hby own_d1_10) rfl k) ?_
    show own_Go p.tables e below K (s₁.setTop (mkF m 11 #[.val (.long q1), .second, .val (.long q2), .second, .val (.long q3), .second, .val (.long q4), .second, .val (.long q5), .second] [(.long q1)]))
    refine own_by (fun t k => XS.lload X0.here hx rfl (hb hby own_d1_11) rfl k) ?_
    show own_Go p.tables e below K (s₁.setTop (mkF m 13 #[.val (.long q1), .second, .val (.long q2), .second, .val (.long q3), .second, .val (.long q4), .second, .val (.long q5), .second] [(.long q4), (.long q1)]))
    refine own_by (fun t k => XS.lsub X0.here hx rfl (hb hby own_d1_13) rfl k) ?_
    show own_Go p.tables e below K (s₁.setTop (mkF m 14 #[.val (.long q1), .second, .val (.long q2), .second, .val (.long q3), .second, .val (.long q4), .second, .val (.long q5), .second] [(.long (q1 - q4))]))
    refine own_by (fun t k => XS.lload X0.here hx rfl (hb hby own_d1_14) rfl k) ?_
    show own_Go p.tables e below K (s₁.setTop (mkF m 16 #[.val (.long q1), .second, .val (.long q2), .second, .val (.long q3), .second, .val (.long q4), .second, .val (.long q5), .second] [(.long q5), (.long (q1 - q4))]))
    refine own_by (fun t k => XS.lcmp X0.here hx rfl (hb hby own_d1_16) rfl k) ?_
    show own_Go p.tables e below K (s₁.setTop (mkF m 17 #[.val (.long q1), .second, .val (.long q2), .second, .val (.long q3), .second, .val (.long q4), .second, .val (.long q5), .second] [(.int (lcmpW (q1 - q4) q5))]))
    by_cases hc17 : (q1 - q4) < q5
    · refine own_by (fun t k => XS.ifYes X0.here hx rfl (pc0 := 17) (pc' := 24) rfl (hb hby own_d1_17) rfl (own_llt hc17).1 (by decide) (by decide) k) ?_
      show own_Go p.tables e below K (s₁.setTop (mkF m 24 #[.val (.long q1), .second, .val (.long q2), .second, .val (.long q3), .second, .val (.long q4), .second, .val (.long q5), .second] []))
      refine own_by (fun t k => XS.iconst X0.here hx rfl (hb hby own_d1_24) k) ?_
      show own_Go p.tables e below K (s₁.setTop (mkF m 25 #[.val (.long q1), .second, .val (.long q2), .second, .val (.long q3), .second, .val (.long q4), .second, .val (.long q5), .second] [(.int (0 : Int32))]))
      exact own_retZ X0 hx (t := .boolean) hret (by simp) (hb hby own_d1_25) (hK (some (.int (0 : Int32))) X0 (fun h => by rw [hret] at h; cases h) ⟨by simp [own_sep, *], N0, e0⟩ (by decide) (by decide))
    · refine own_by (fun t k => XS.ifNo X0.here hx rfl (hb hby own_d1_17) rfl (own_lge hc17).1 k) ?_
      show own_Go p.tables e below K (s₁.setTop (mkF m 20 #[.val (.long q1), .second, .val (.long q2), .second, .val (.long q3), .second, .val (.long q4), .second, .val (.long q5), .second] []))
      refine own_by (fun t k => XS.iconst X0.here hx rfl (hb hby own_d1_20) k) ?_
      show own_Go p.tables e below K (s₁.setTop (mkF m 21 #[.val (.long q1), .second, .val (.long q2), .second, .val (.long q3), .second, .val (.long q4), .second, .val (.long q5), .second] [(.int (1 : Int32))]))
      refine own_by (fun t k => XS.goto X0.here hx rfl (pc0 := 21) (pc' := 25) rfl (hb hby own_d1_21) (by decide) (by decide) k) ?_
      show own_Go p.tables e below K (s₁.setTop (mkF m 25 #[.val (.long q1), .second, .val (.long q2), .second, .val (.long q3), .second, .val (.long q4), .second, .val (.long q5), .second] [(.int (1 : Int32))]))
      exact own_retZ X0 hx (t := .boolean) hret (by simp) (hb hby own_d1_25) (hK (some (.int (1 : Int32))) X0 (fun h => by rw [hret] at h; cases h) ⟨by simp [own_sep, *], N0, e0⟩ (by decide) (by decide))
  · refine own_by (fun t k => XS.ifYes X0.here hx rfl (pc0 := 7) (pc' := 20) rfl (hb hby own_d1_7) rfl (own_lge hc7).2 (by decide) (by decide) k) ?_
    show own_Go p.tables e below K (s₁.setTop (mkF m 20 #[.val (.long q1), .second, .val (.long q2), .second, .val (.long q3), .second, .val (.long q4), .second, .val (.long q5), .second] []))
    refine own_by (fun t k => XS.iconst X0.here hx rfl (hb hby own_d1_20) k) ?_
    show own_Go p.tables e below K (s₁.setTop (mkF m 21 #[.val (.long q1), .second, .val (.long q2), .second, .val (.long q3), .second, .val (.long q4), .second, .val (.long q5), .second] [(.int (1 : Int32))]))
    refine own_by (fun t k => XS.goto X0.here hx rfl (pc0 := 21) (pc' := 25) rfl (hb hby own_d1_21) (by decide) (by decide) k) ?_
    show own_Go p.tables e below K (s₁.setTop (mkF m 25 #[.val (.long q1), .second, .val (.long q2), .second, .val (.long q3), .second, .val (.long q4), .second, .val (.long q5), .second] [(.int (1 : Int32))]))
    exact own_retZ X0 hx (t := .boolean) hret (by simp) (hb hby own_d1_25) (hK (some (.int (1 : Int32))) X0 (fun h => by rw [hret] at h; cases h) ⟨by simp [own_sep, *], N0, e0⟩ (by decide) (by decide))
theorem own_pd0 : parseMethodDescriptor "(JJJJJ)Z" = some ⟨[.long, .long, .long, .long, .long], some .boolean⟩ := by decide +kernel
theorem own_pn0 : plainName "com/example/skyroster/skyroster/RulesSeparatedPinLaw" = true := by first | (simp [plainName, overriddenIn]; done) | decide +kernel
theorem own_ef0 (m : MethodId) (q1 : Int64) (q2 : Int64) (q3 : Int64) (q4 : Int64) (q5 : Int64) : entryFrame m #[(.long q1), (.long q2), (.long q3), (.long q4), (.long q5)] maxLocals = mkF m 0 #[.val (.long q1), .second, .val (.long q2), .second, .val (.long q3), .second, .val (.long q4), .second, .val (.long q5), .second, .unset, .unset, .unset, .unset, .unset, .unset, .unset, .unset, .unset, .unset, .unset, .unset] [] := by first | (simp [entryFrame, mkF, argsToLocals, Value.category, maxLocals]; done) | rfl
def own_Q0 (Z : State) (q1 : Int64) (q2 : Int64) (q3 : Int64) (q4 : Int64) (q5 : Int64) (h0 : Heap) (n0 : Nat) (v : Option Value) (h : Heap) (L : List Loc) : Prop := v = some (.int (1 : Int32)) ∧ Fr n0 L
set_option maxRecDepth 65536 in
set_option maxHeartbeats 40000000 in
theorem own_rm0 (l : Launch) (Z : State) (a0 : Array Value) (hw : ∀ d ∈ tables_1, d.before a0 Z = true) (ws : List Jvm.Cond) (q1 : Int64) (q2 : Int64) (q3 : Int64) (q4 : Int64) (q5 : Int64) (h0 : Heap) (n0 : Nat) (Z0 : n0 ≤ h0.size)  :
    MetFree l x (head1 (Jvm.Cond.code x code maxLocals ret :: ws) room_1) (fun a U => a = #[(.long q1), (.long q2), (.long q3), (.long q4), (.long q5)] ∧ Z.Warmed39 U.vm ∧ U.heap = h0) (fun _ _ _ _ _ => True) (fun _ U o U' => ∃ v L, o = .returned v ∧ own_Q0 Z q1 q2 q3 q4 q5 h0 n0 v U'.heap L ∧ FrameEnd U o U' L 0 0) := by
  refine own_met (Q := own_Q0 Z q1 q2 q3 q4 q5 h0 n0) (plainFor_of_name own_pn0) ?_
  intro p e s m below meth c s₁ K hx hby hml hown hnm hret hZ X0 e0 hK
  have hown : s.vm.findClass "com/example/skyroster/skyroster/RulesSeparatedPinLaw" = some m.cls := hown
  have N0 := Fr.nil n0
  refine own_by (fun t k => castTop (own_ef0 m q1 q2 q3 q4 q5) k) ?_
  show own_Go p.tables e below K (s₁.setTop (mkF m 0 #[.val (.long q1), .second, .val (.long q2), .second, .val (.long q3), .second, .val (.long q4), .second, .val (.long q5), .second, .unset, .unset, .unset, .unset, .unset, .unset, .unset, .unset, .unset, .unset, .unset, .unset] []))
  refine own_by (fun t k => XS.lloadN X0.here hx rfl (hb hby at_0) rfl k) ?_
  show own_Go p.tables e below K (s₁.setTop (mkF m 1 #[.val (.long q1), .second, .val (.long q2), .second, .val (.long q3), .second, .val (.long q4), .second, .val (.long q5), .second, .unset, .unset, .unset, .unset, .unset, .unset, .unset, .unset, .unset, .unset, .unset, .unset] [(.long q1)]))
  refine own_by (fun t k => XS.iconst X0.here hx rfl (hb hby at_1) k) ?_
  show own_Go p.tables e below K (s₁.setTop (mkF m 2 #[.val (.long q1), .second, .val (.long q2), .second, .val (.long q3), .second, .val (.long q4), .second, .val (.long q5), .second, .unset, .unset, .unset, .unset, .unset, .unset, .unset, .unset, .unset, .unset, .unset, .unset] [(.int (2 : Int32)), (.long q1)]))
  refine own_by (fun t k => XS.lshr X0.here hx rfl (hb hby at_2) rfl k) ?_
  show own_Go p.tables e below K (s₁.setTop (mkF m 3 #[.val (.long q1), .second, .val (.long q2), .second, .val (.long q3), .second, .val (.long q4), .second, .val (.long q5), .second, .unset, .unset, .unset, .unset, .unset, .unset, .unset, .unset, .unset, .unset, .unset, .unset] [(.long (q1 >>> ((2 : Int32) &&& 0x3f).toInt64))]))
  refine own_by (fun t k => XS.lstore X0.here hx rfl (hb hby at_3) rfl (l' := #[.val (.long q1), .second, .val (.long q2), .second, .val (.long q3), .second, .val (.long q4), .second, .val (.long q5), .second, .val (.long (q1 >>> ((2 : Int32) &&& 0x3f).toInt64)), .second, .unset, .unset, .unset, .unset, .unset, .unset, .unset, .unset, .unset, .unset]) rfl k) ?_
  show own_Go p.tables e below K (s₁.setTop (mkF m 5 #[.val (.long q1), .second, .val (.long q2), .second, .val (.long q3), .second, .val (.long q4), .second, .val (.long q5), .second, .val (.long (own_a q1)), .second, .unset, .unset, .unset, .unset, .unset, .unset, .unset, .unset, .unset, .unset] []))
  refine own_by (fun t k => XS.lload X0.here hx rfl (hb hby at_5) rfl k) ?_
  show own_Go p.tables e below K (s₁.setTop (mkF m 7 #[.val (.long q1), .second, .val (.long q2), .second, .val (.long q3), .second, .val (.long q4), .second, .val (.long q5), .second, .val (.long (own_a q1)), .second, .unset, .unset, .unset, .unset, .unset, .unset, .unset, .unset, .unset, .unset] [(.long (own_a q1))]))
  refine own_by (fun t k => XS.lloadN X0.here hx rfl (hb hby at_7) rfl k) ?_
  show own_Go p.tables e below K (s₁.setTop (mkF m 8 #[.val (.long q1), .second, .val (.long q2), .second, .val (.long q3), .second, .val (.long q4), .second, .val (.long q5), .second, .val (.long (own_a q1)), .second, .unset, .unset, .unset, .unset, .unset, .unset, .unset, .unset, .unset, .unset] [(.long q2), (.long (own_a q1))]))
  refine own_by (fun t k => XS.iconst X0.here hx rfl (hb hby at_8) k) ?_
  show own_Go p.tables e below K (s₁.setTop (mkF m 9 #[.val (.long q1), .second, .val (.long q2), .second, .val (.long q3), .second, .val (.long q4), .second, .val (.long q5), .second, .val (.long (own_a q1)), .second, .unset, .unset, .unset, .unset, .unset, .unset, .unset, .unset, .unset, .unset] [(.int (4 : Int32)), (.long q2), (.long (own_a q1))]))
  refine own_by (fun t k => XS.lushr X0.here hx rfl (hb hby at_9) rfl k) ?_
  show own_Go p.tables e below K (s₁.setTop (mkF m 10 #[.val (.long q1), .second, .val (.long q2), .second, .val (.long q3), .second, .val (.long q4), .second, .val (.long q5), .second, .val (.long (own_a q1)), .second, .unset, .unset, .unset, .unset, .unset, .unset, .unset, .unset, .unset, .unset] [(.long (own_b q2)), (.long (own_a q1))]))
  refine own_by (fun t k => XS.ladd X0.here hx rfl (hb hby at_10) rfl k) ?_
  show own_Go p.tables e below K (s₁.setTop (mkF m 11 #[.val (.long q1), .second, .val (.long q2), .second, .val (.long q3), .second, .val (.long q4), .second, .val (.long q5), .second, .val (.long (own_a q1)), .second, .unset, .unset, .unset, .unset, .unset, .unset, .unset, .unset, .unset, .unset] [(.long ((own_a q1) + (own_b q2)))]))
  refine own_by (fun t k => XS.lstore X0.here hx rfl (hb hby at_11) rfl (l' := #[.val (.long q1), .second, .val (.long q2), .second, .val (.long q3), .second, .val (.long q4), .second, .val (.long q5), .second, .val (.long (own_a q1)), .second, .val (.long ((own_a q1) + (own_b q2))), .second, .unset, .unset, .unset, .unset, .unset, .unset, .unset, .unset]) rfl k) ?_
  show own_Go p.tables e below K (s₁.setTop (mkF m 13 #[.val (.long q1), .second, .val (.long q2), .second, .val (.long q3), .second, .val (.long q4), .second, .val (.long q5), .second, .val (.long (own_a q1)), .second, .val (.long ((own_a q1) + (own_b q2))), .second, .unset, .unset, .unset, .unset, .unset, .unset, .unset, .unset] []))
  refine own_by (fun t k => XS.lload X0.here hx rfl (hb hby at_13) rfl k) ?_
  show own_Go p.tables e below K (s₁.setTop (mkF m 15 #[.val (.long q1), .second, .val (.long q2), .second, .val (.long q3), .second, .val (.long q4), .second, .val (.long q5), .second, .val (.long (own_a q1)), .second, .val (.long ((own_a q1) + (own_b q2))), .second, .unset, .unset, .unset, .unset, .unset, .unset, .unset, .unset] [(.long q3)]))
  refine own_by (fun t k => XS.iconst X0.here hx rfl (hb hby at_15) k) ?_
  show own_Go p.tables e below K (s₁.setTop (mkF m 16 #[.val (.long q1), .second, .val (.long q2), .second, .val (.long q3), .second, .val (.long q4), .second, .val (.long q5), .second, .val (.long (own_a q1)), .second, .val (.long ((own_a q1) + (own_b q2))), .second, .unset, .unset, .unset, .unset, .unset, .unset, .unset, .unset] [(.int (2 : Int32)), (.long q3)]))
  refine own_by (fun t k => XS.lshr X0.here hx rfl (hb hby at_16) rfl k) ?_
  show own_Go p.tables e below K (s₁.setTop (mkF m 17 #[.val (.long q1), .second, .val (.long q2), .second, .val (.long q3), .second, .val (.long q4), .second, .val (.long q5), .second, .val (.long (own_a q1)), .second, .val (.long ((own_a q1) + (own_b q2))), .second, .unset, .unset, .unset, .unset, .unset, .unset, .unset, .unset] [(.long (q3 >>> ((2 : Int32) &&& 0x3f).toInt64))]))
  refine own_by (fun t k => XS.lstore X0.here hx rfl (hb hby at_17) rfl (l' := #[.val (.long q1), .second, .val (.long q2), .second, .val (.long q3), .second, .val (.long q4), .second, .val (.long q5), .second, .val (.long (own_a q1)), .second, .val (.long ((own_a q1) + (own_b q2))), .second, .val (.long (q3 >>> ((2 : Int32) &&& 0x3f).toInt64)), .second, .unset, .unset, .unset, .unset, .unset, .unset]) rfl k) ?_
  show own_Go p.tables e below K (s₁.setTop (mkF m 19 #[.val (.long q1), .second, .val (.long q2), .second, .val (.long q3), .second, .val (.long q4), .second, .val (.long q5), .second, .val (.long (own_a q1)), .second, .val (.long ((own_a q1) + (own_b q2))), .second, .val (.long (own_a q3)), .second, .unset, .unset, .unset, .unset, .unset, .unset] []))
  refine own_by (fun t k => XS.lload X0.here hx rfl (hb hby at_19) rfl k) ?_
  show own_Go p.tables e below K (s₁.setTop (mkF m 21 #[.val (.long q1), .second, .val (.long q2), .second, .val (.long q3), .second, .val (.long q4), .second, .val (.long q5), .second, .val (.long (own_a q1)), .second, .val (.long ((own_a q1) + (own_b q2))), .second, .val (.long (own_a q3)), .second, .unset, .unset, .unset, .unset, .unset, .unset] [(.long (own_a q3))]))
  refine own_by (fun t k => XS.lload X0.here hx rfl (hb hby at_21) rfl k) ?_
  show own_Go p.tables e below K (s₁.setTop (mkF m 23 #[.val (.long q1), .second, .val (.long q2), .second, .val (.long q3), .second, .val (.long q4), .second, .val (.long q5), .second, .val (.long (own_a q1)), .second, .val (.long ((own_a q1) + (own_b q2))), .second, .val (.long (own_a q3)), .second, .unset, .unset, .unset, .unset, .unset, .unset] [(.long q4), (.long (own_a q3))]))
  refine own_by (fun t k => XS.iconst X0.here hx rfl (hb hby at_23) k) ?_
  show own_Go p.tables e below K (s₁.setTop (mkF m 24 #[.val (.long q1), .second, .val (.long q2), .second, .val (.long q3), .second, .val (.long q4), .second, .val (.long q5), .second, .val (.long (own_a q1)), .second, .val (.long ((own_a q1) + (own_b q2))), .second, .val (.long (own_a q3)), .second, .unset, .unset, .unset, .unset, .unset, .unset] [(.int (4 : Int32)), (.long q4), (.long (own_a q3))]))
  refine own_by (fun t k => XS.lushr X0.here hx rfl (hb hby at_24) rfl k) ?_
  show own_Go p.tables e below K (s₁.setTop (mkF m 25 #[.val (.long q1), .second, .val (.long q2), .second, .val (.long q3), .second, .val (.long q4), .second, .val (.long q5), .second, .val (.long (own_a q1)), .second, .val (.long ((own_a q1) + (own_b q2))), .second, .val (.long (own_a q3)), .second, .unset, .unset, .unset, .unset, .unset, .unset] [(.long (own_b q4)), (.long (own_a q3))]))
  refine own_by (fun t k => XS.ladd X0.here hx rfl (hb hby at_25) rfl k) ?_
  show own_Go p.tables e below K (s₁.setTop (mkF m 26 #[.val (.long q1), .second, .val (.long q2), .second, .val (.long q3), .second, .val (.long q4), .second, .val (.long q5), .second, .val (.long (own_a q1)), .second, .val (.long ((own_a q1) + (own_b q2))), .second, .val (.long (own_a q3)), .second, .unset, .unset, .unset, .unset, .unset, .unset] [(.long ((own_a q3) + (own_b q4)))]))
  refine own_by (fun t k => XS.lstore X0.here hx rfl (hb hby at_26) rfl (l' := #[.val (.long q1), .second, .val (.long q2), .second, .val (.long q3), .second, .val (.long q4), .second, .val (.long q5), .second, .val (.long (own_a q1)), .second, .val (.long ((own_a q1) + (own_b q2))), .second, .val (.long (own_a q3)), .second, .val (.long ((own_a q3) + (own_b q4))), .second, .unset, .unset, .unset, .unset]) rfl k) ?_
  show own_Go p.tables e below K (s₁.setTop (mkF m 28 #[.val (.long q1), .second, .val (.long q2), .second, .val (.long q3), .second, .val (.long q4), .second, .val (.long q5), .second, .val (.long (own_a q1)), .second, .val (.long ((own_a q1) + (own_b q2))), .second, .val (.long (own_a q3)), .second, .val (.long ((own_a q3) + (own_b q4))), .second, .unset, .unset, .unset, .unset] []))
  refine own_by (fun t k => XS.lload X0.here hx rfl (hb hby at_28) rfl k) ?_
  show own_Go p.tables e below K (s₁.setTop (mkF m 30 #[.val (.long q1), .second, .val (.long q2), .second, .val (.long q3), .second, .val (.long q4), .second, .val (.long q5), .second, .val (.long (own_a q1)), .second, .val (.long ((own_a q1) + (own_b q2))), .second, .val (.long (own_a q3)), .second, .val (.long ((own_a q3) + (own_b q4))), .second, .unset, .unset, .unset, .unset] [(.long q5)]))
  refine own_by (fun t k => XS.iconst X0.here hx rfl (hb hby at_30) k) ?_
  show own_Go p.tables e below K (s₁.setTop (mkF m 31 #[.val (.long q1), .second, .val (.long q2), .second, .val (.long q3), .second, .val (.long q4), .second, .val (.long q5), .second, .val (.long (own_a q1)), .second, .val (.long ((own_a q1) + (own_b q2))), .second, .val (.long (own_a q3)), .second, .val (.long ((own_a q3) + (own_b q4))), .second, .unset, .unset, .unset, .unset] [(.int (4 : Int32)), (.long q5)]))
  refine own_by (fun t k => XS.lushr X0.here hx rfl (hb hby at_31) rfl k) ?_
  show own_Go p.tables e below K (s₁.setTop (mkF m 32 #[.val (.long q1), .second, .val (.long q2), .second, .val (.long q3), .second, .val (.long q4), .second, .val (.long q5), .second, .val (.long (own_a q1)), .second, .val (.long ((own_a q1) + (own_b q2))), .second, .val (.long (own_a q3)), .second, .val (.long ((own_a q3) + (own_b q4))), .second, .unset, .unset, .unset, .unset] [(.long ((q5.toUInt64 >>> ((4 : Int32) &&& 0x3f).toInt64.toUInt64).toInt64))]))
  refine own_by (fun t k => XS.lstore X0.here hx rfl (hb hby at_32) rfl (l' := #[.val (.long q1), .second, .val (.long q2), .second, .val (.long q3), .second, .val (.long q4), .second, .val (.long q5), .second, .val (.long (own_a q1)), .second, .val (.long ((own_a q1) + (own_b q2))), .second, .val (.long (own_a q3)), .second, .val (.long ((own_a q3) + (own_b q4))), .second, .val (.long ((q5.toUInt64 >>> ((4 : Int32) &&& 0x3f).toInt64.toUInt64).toInt64)), .second, .unset, .unset]) rfl k) ?_
  have J121 : ∀ bx : Int32, bx = own_ex (own_a q1) ((own_a q1) + (own_b q2)) (own_a q3) ((own_a q3) + (own_b q4)) (own_b q5) → own_Go p.tables e below K (s₁.setTop (mkF m 121 #[.val (.long q1), .second, .val (.long q2), .second, .val (.long q3), .second, .val (.long q4), .second, .val (.long q5), .second, .val (.long (own_a q1)), .second, .val (.long ((own_a q1) + (own_b q2))), .second, .val (.long (own_a q3)), .second, .val (.long ((own_a q3) + (own_b q4))), .second, .val (.long (own_b q5)), .second, .val (.int bx), .unset] [])) := by
    intro bx hbx
    show own_Go p.tables e below K (s₁.setTop (mkF m 121 #[.val (.long q1), .second, .val (.long q2), .second, .val (.long q3), .second, .val (.long q4), .second, .val (.long q5), .second, .val (.long (own_a q1)), .second, .val (.long ((own_a q1) + (own_b q2))), .second, .val (.long (own_a q3)), .second, .val (.long ((own_a q3) + (own_b q4))), .second, .val (.long (own_b q5)), .second, .val (.int bx), .unset] []))
    refine own_by (fun t k => XS.lload X0.here hx rfl (hb hby at_121) rfl k) ?_
    show own_Go p.tables e below K (s₁.setTop (mkF m 123 #[.val (.long q1), .second, .val (.long q2), .second, .val (.long q3), .second, .val (.long q4), .second, .val (.long q5), .second, .val (.long (own_a q1)), .second, .val (.long ((own_a q1) + (own_b q2))), .second, .val (.long (own_a q3)), .second, .val (.long ((own_a q3) + (own_b q4))), .second, .val (.long (own_b q5)), .second, .val (.int bx), .unset] [(.long (own_a q1))]))
    refine own_by (fun t k => XS.lload X0.here hx rfl (hb hby at_123) rfl k) ?_
    show own_Go p.tables e below K (s₁.setTop (mkF m 125 #[.val (.long q1), .second, .val (.long q2), .second, .val (.long q3), .second, .val (.long q4), .second, .val (.long q5), .second, .val (.long (own_a q1)), .second, .val (.long ((own_a q1) + (own_b q2))), .second, .val (.long (own_a q3)), .second, .val (.long ((own_a q3) + (own_b q4))), .second, .val (.long (own_b q5)), .second, .val (.int bx), .unset] [(.long ((own_a q1) + (own_b q2))), (.long (own_a q1))]))
    refine own_by (fun t k => XS.lload X0.here hx rfl (hb hby at_125) rfl k) ?_
    show own_Go p.tables e below K (s₁.setTop (mkF m 127 #[.val (.long q1), .second, .val (.long q2), .second, .val (.long q3), .second, .val (.long q4), .second, .val (.long q5), .second, .val (.long (own_a q1)), .second, .val (.long ((own_a q1) + (own_b q2))), .second, .val (.long (own_a q3)), .second, .val (.long ((own_a q3) + (own_b q4))), .second, .val (.long (own_b q5)), .second, .val (.int bx), .unset] [(.long (own_a q3)), (.long ((own_a q1) + (own_b q2))), (.long (own_a q1))]))
    refine own_by (fun t k => XS.lload X0.here hx rfl (hb hby at_127) rfl k) ?_
    show own_Go p.tables e below K (s₁.setTop (mkF m 129 #[.val (.long q1), .second, .val (.long q2), .second, .val (.long q3), .second, .val (.long q4), .second, .val (.long q5), .second, .val (.long (own_a q1)), .second, .val (.long ((own_a q1) + (own_b q2))), .second, .val (.long (own_a q3)), .second, .val (.long ((own_a q3) + (own_b q4))), .second, .val (.long (own_b q5)), .second, .val (.int bx), .unset] [(.long ((own_a q3) + (own_b q4))), (.long (own_a q3)), (.long ((own_a q1) + (own_b q2))), (.long (own_a q1))]))
    refine own_by (fun t k => XS.lload X0.here hx rfl (hb hby at_129) rfl k) ?_
    show own_Go p.tables e below K (s₁.setTop (mkF m 131 #[.val (.long q1), .second, .val (.long q2), .second, .val (.long q3), .second, .val (.long q4), .second, .val (.long q5), .second, .val (.long (own_a q1)), .second, .val (.long ((own_a q1) + (own_b q2))), .second, .val (.long (own_a q3)), .second, .val (.long ((own_a q3) + (own_b q4))), .second, .val (.long (own_b q5)), .second, .val (.int bx), .unset] [(.long (own_b q5)), (.long ((own_a q3) + (own_b q4))), (.long (own_a q3)), (.long ((own_a q1) + (own_b q2))), (.long (own_a q1))]))
    obtain ⟨_, _, ⟨T1, L1, k1, n1⟩, -, X1, ⟨Lc1, hQ1, l1, y1, z1⟩, st1⟩ := Jvm.LawKit.callS X0 hx (y := (⟨"com/example/skyroster/skyroster/Rules", "separated", "(JJJJJ)Z"⟩ : MethodName)) hown (mvT hZ (hw _ (List.mem_of_getElem? (i := 0) rfl))) (mvT hZ (hw _ (List.mem_of_getElem? (i := 1) rfl))) (mvT hZ (hw _ (List.mem_of_getElem? (i := 2) rfl))) (mvT hZ (hw _ (List.mem_of_getElem? (i := 3) rfl))) (by decide) (backOf (W := 0) (own_rm1 l Z a0 hw [] (own_a q1) ((own_a q1) + (own_b q2)) (own_a q3) ((own_a q3) + (own_b q4)) (own_b q5) h0 n0 Z0) hZ (hw _ (List.mem_of_getElem? (i := 3) rfl)) (hw _ (List.mem_of_getElem? (i := 2) rfl)) (by decide) (by decide)) (g := (mkF m 131 #[.val (.long q1), .second, .val (.long q2), .second, .val (.long q3), .second, .val (.long q4), .second, .val (.long q5), .second, .val (.long (own_a q1)), .second, .val (.long ((own_a q1) + (own_b q2))), .second, .val (.long (own_a q3)), .second, .val (.long ((own_a q3) + (own_b q4))), .second, .val (.long (own_b q5)), .second, .val (.int bx), .unset] [(.long (own_b q5)), (.long ((own_a q3) + (own_b q4))), (.long (own_a q3)), (.long ((own_a q1) + (own_b q2))), (.long (own_a q1))])) rfl (by rw [hml]; rfl) (argsL := [(.long (own_a q1)), (.long ((own_a q1) + (own_b q2))), (.long (own_a q3)), (.long ((own_a q3) + (own_b q4))), (.long (own_b q5))]) (rest := []) (lenOf own_pd0 rfl) rfl (by show 2 * 0 + _ ≤ _; exact Nat.le_of_eq rfl) (hb hby at_131) (fun _ _ => ⟨rfl, e0, (by decide : 0 + 0 ≤ _), (by decide : 0 + 0 ≤ _)⟩)
    dsimp only [Pt.U, Pt.locs, Pt.cells, Pt.slots] at X1 l1 y1 z1 st1 hQ1
    subst l1 y1 z1
    obtain ⟨rfl, N1q, e1⟩ := hQ1
    have N1 := Fr.app N0 N1q
    refine own_by st1 ?_
    show own_Go p.tables e below K (T1.setTop (mkF m 134 #[.val (.long q1), .second, .val (.long q2), .second, .val (.long q3), .second, .val (.long q4), .second, .val (.long q5), .second, .val (.long (own_a q1)), .second, .val (.long ((own_a q1) + (own_b q2))), .second, .val (.long (own_a q3)), .second, .val (.long ((own_a q3) + (own_b q4))), .second, .val (.long (own_b q5)), .second, .val (.int bx), .unset] [(.int (own_sep (own_a q1) ((own_a q1) + (own_b q2)) (own_a q3) ((own_a q3) + (own_b q4)) (own_b q5)))]))
    refine own_by (fun t k => XS.istore X1.here hx rfl (hb hby at_134) rfl (l' := #[.val (.long q1), .second, .val (.long q2), .second, .val (.long q3), .second, .val (.long q4), .second, .val (.long q5), .second, .val (.long (own_a q1)), .second, .val (.long ((own_a q1) + (own_b q2))), .second, .val (.long (own_a q3)), .second, .val (.long ((own_a q3) + (own_b q4))), .second, .val (.long (own_b q5)), .second, .val (.int bx), .val (.int (own_sep (own_a q1) ((own_a q1) + (own_b q2)) (own_a q3) ((own_a q3) + (own_b q4)) (own_b q5)))]) rfl k) ?_
    show own_Go p.tables e below K (T1.setTop (mkF m 136 #[.val (.long q1), .second, .val (.long q2), .second, .val (.long q3), .second, .val (.long q4), .second, .val (.long q5), .second, .val (.long (own_a q1)), .second, .val (.long ((own_a q1) + (own_b q2))), .second, .val (.long (own_a q3)), .second, .val (.long ((own_a q3) + (own_b q4))), .second, .val (.long (own_b q5)), .second, .val (.int bx), .val (.int (own_sep (own_a q1) ((own_a q1) + (own_b q2)) (own_a q3) ((own_a q3) + (own_b q4)) (own_b q5)))] []))
    refine own_by (fun t k => XS.iload X1.here hx rfl (hb hby at_136) rfl k) ?_
    show own_Go p.tables e below K (T1.setTop (mkF m 138 #[.val (.long q1), .second, .val (.long q2), .second, .val (.long q3), .second, .val (.long q4), .second, .val (.long q5), .second, .val (.long (own_a q1)), .second, .val (.long ((own_a q1) + (own_b q2))), .second, .val (.long (own_a q3)), .second, .val (.long ((own_a q3) + (own_b q4))), .second, .val (.long (own_b q5)), .second, .val (.int bx), .val (.int (own_sep (own_a q1) ((own_a q1) + (own_b q2)) (own_a q3) ((own_a q3) + (own_b q4)) (own_b q5)))] [(.int (own_sep (own_a q1) ((own_a q1) + (own_b q2)) (own_a q3) ((own_a q3) + (own_b q4)) (own_b q5)))]))
    refine own_by (fun t k => XS.iload X1.here hx rfl (hb hby at_138) rfl k) ?_
    show own_Go p.tables e below K (T1.setTop (mkF m 140 #[.val (.long q1), .second, .val (.long q2), .second, .val (.long q3), .second, .val (.long q4), .second, .val (.long q5), .second, .val (.long (own_a q1)), .second, .val (.long ((own_a q1) + (own_b q2))), .second, .val (.long (own_a q3)), .second, .val (.long ((own_a q3) + (own_b q4))), .second, .val (.long (own_b q5)), .second, .val (.int bx), .val (.int (own_sep (own_a q1) ((own_a q1) + (own_b q2)) (own_a q3) ((own_a q3) + (own_b q4)) (own_b q5)))] [(.int bx), (.int (own_sep (own_a q1) ((own_a q1) + (own_b q2)) (own_a q3) ((own_a q3) + (own_b q4)) (own_b q5)))]))
    have hc140 : (own_sep (own_a q1) ((own_a q1) + (own_b q2)) (own_a q3) ((own_a q3) + (own_b q4)) (own_b q5)) = bx := (own_law q1 q2 q3 q4 q5).trans hbx.symm
    refine own_by (fun t k => XS.icmpNo X1.here hx rfl (hb hby at_140) rfl (teq hc140).2 k) ?_
    show own_Go p.tables e below K (T1.setTop (mkF m 143 #[.val (.long q1), .second, .val (.long q2), .second, .val (.long q3), .second, .val (.long q4), .second, .val (.long q5), .second, .val (.long (own_a q1)), .second, .val (.long ((own_a q1) + (own_b q2))), .second, .val (.long (own_a q3)), .second, .val (.long ((own_a q3) + (own_b q4))), .second, .val (.long (own_b q5)), .second, .val (.int bx), .val (.int (own_sep (own_a q1) ((own_a q1) + (own_b q2)) (own_a q3) ((own_a q3) + (own_b q4)) (own_b q5)))] []))
    refine own_by (fun t k => XS.iconst X1.here hx rfl (hb hby at_143) k) ?_
    show own_Go p.tables e below K (T1.setTop (mkF m 144 #[.val (.long q1), .second, .val (.long q2), .second, .val (.long q3), .second, .val (.long q4), .second, .val (.long q5), .second, .val (.long (own_a q1)), .second, .val (.long ((own_a q1) + (own_b q2))), .second, .val (.long (own_a q3)), .second, .val (.long ((own_a q3) + (own_b q4))), .second, .val (.long (own_b q5)), .second, .val (.int bx), .val (.int (own_sep (own_a q1) ((own_a q1) + (own_b q2)) (own_a q3) ((own_a q3) + (own_b q4)) (own_b q5)))] [(.int (1 : Int32))]))
    refine own_by (fun t k => XS.goto X1.here hx rfl (pc0 := 144) (pc' := 148) rfl (hb hby at_144) (by decide) (by decide) k) ?_
    show own_Go p.tables e below K (T1.setTop (mkF m 148 #[.val (.long q1), .second, .val (.long q2), .second, .val (.long q3), .second, .val (.long q4), .second, .val (.long q5), .second, .val (.long (own_a q1)), .second, .val (.long ((own_a q1) + (own_b q2))), .second, .val (.long (own_a q3)), .second, .val (.long ((own_a q3) + (own_b q4))), .second, .val (.long (own_b q5)), .second, .val (.int bx), .val (.int (own_sep (own_a q1) ((own_a q1) + (own_b q2)) (own_a q3) ((own_a q3) + (own_b q4)) (own_b q5)))] [(.int (1 : Int32))]))
    exact own_retZ X1 hx (t := .boolean) hret (by simp) (hb hby at_148) (hK (some (.int (1 : Int32))) X1 (fun h => by rw [hret] at h; cases h) ⟨rfl, N1⟩ (by decide) (by decide))
  show own_Go p.tables e below K (s₁.setTop (mkF m 34 #[.val (.long q1), .second, .val (.long q2), .second, .val (.long q3), .second, .val (.long q4), .second, .val (.long q5), .second, .val (.long (own_a q1)), .second, .val (.long ((own_a q1) + (own_b q2))), .second, .val (.long (own_a q3)), .second, .val (.long ((own_a q3) + (own_b q4))), .second, .val (.long (own_b q5)), .second, .unset, .unset] []))
  refine own_by (fun t k => XS.lload X0.here hx rfl (hb hby at_34) rfl k) ?_
  show own_Go p.tables e below K (s₁.setTop (mkF m 36 #[.val (.long q1), .second, .val (.long q2), .second, .val (.long q3), .second, .val (.long q4), .second, .val (.long q5), .second, .val (.long (own_a q1)), .second, .val (.long ((own_a q1) + (own_b q2))), .second, .val (.long (own_a q3)), .second, .val (.long ((own_a q3) + (own_b q4))), .second, .val (.long (own_b q5)), .second, .unset, .unset] [(.long (own_a q1))]))
  refine own_by (fun t k => XS.lload X0.here hx rfl (hb hby at_36) rfl k) ?_
  show own_Go p.tables e below K (s₁.setTop (mkF m 38 #[.val (.long q1), .second, .val (.long q2), .second, .val (.long q3), .second, .val (.long q4), .second, .val (.long q5), .second, .val (.long (own_a q1)), .second, .val (.long ((own_a q1) + (own_b q2))), .second, .val (.long (own_a q3)), .second, .val (.long ((own_a q3) + (own_b q4))), .second, .val (.long (own_b q5)), .second, .unset, .unset] [(.long (own_a q3)), (.long (own_a q1))]))
  refine own_by (fun t k => XS.lcmp X0.here hx rfl (hb hby at_38) rfl k) ?_
  show own_Go p.tables e below K (s₁.setTop (mkF m 39 #[.val (.long q1), .second, .val (.long q2), .second, .val (.long q3), .second, .val (.long q4), .second, .val (.long q5), .second, .val (.long (own_a q1)), .second, .val (.long ((own_a q1) + (own_b q2))), .second, .val (.long (own_a q3)), .second, .val (.long ((own_a q3) + (own_b q4))), .second, .val (.long (own_b q5)), .second, .unset, .unset] [(.int (lcmpW (own_a q1) (own_a q3)))]))
  by_cases hc39 : (own_a q1) < (own_a q3)
  · refine own_by (fun t k => XS.ifNo X0.here hx rfl (hb hby at_39) rfl (own_llt hc39).2 k) ?_
    show own_Go p.tables e below K (s₁.setTop (mkF m 42 #[.val (.long q1), .second, .val (.long q2), .second, .val (.long q3), .second, .val (.long q4), .second, .val (.long q5), .second, .val (.long (own_a q1)), .second, .val (.long ((own_a q1) + (own_b q2))), .second, .val (.long (own_a q3)), .second, .val (.long ((own_a q3) + (own_b q4))), .second, .val (.long (own_b q5)), .second, .unset, .unset] []))
    refine own_by (fun t k => XS.lload X0.here hx rfl (hb hby at_42) rfl k) ?_
    show own_Go p.tables e below K (s₁.setTop (mkF m 44 #[.val (.long q1), .second, .val (.long q2), .second, .val (.long q3), .second, .val (.long q4), .second, .val (.long q5), .second, .val (.long (own_a q1)), .second, .val (.long ((own_a q1) + (own_b q2))), .second, .val (.long (own_a q3)), .second, .val (.long ((own_a q3) + (own_b q4))), .second, .val (.long (own_b q5)), .second, .unset, .unset] [(.long ((own_a q1) + (own_b q2)))]))
    refine own_by (fun t k => XS.lload X0.here hx rfl (hb hby at_44) rfl k) ?_
    show own_Go p.tables e below K (s₁.setTop (mkF m 46 #[.val (.long q1), .second, .val (.long q2), .second, .val (.long q3), .second, .val (.long q4), .second, .val (.long q5), .second, .val (.long (own_a q1)), .second, .val (.long ((own_a q1) + (own_b q2))), .second, .val (.long (own_a q3)), .second, .val (.long ((own_a q3) + (own_b q4))), .second, .val (.long (own_b q5)), .second, .unset, .unset] [(.long (own_b q5)), (.long ((own_a q1) + (own_b q2)))]))
    refine own_by (fun t k => XS.ladd X0.here hx rfl (hb hby at_46) rfl k) ?_
    show own_Go p.tables e below K (s₁.setTop (mkF m 47 #[.val (.long q1), .second, .val (.long q2), .second, .val (.long q3), .second, .val (.long q4), .second, .val (.long q5), .second, .val (.long (own_a q1)), .second, .val (.long ((own_a q1) + (own_b q2))), .second, .val (.long (own_a q3)), .second, .val (.long ((own_a q3) + (own_b q4))), .second, .val (.long (own_b q5)), .second, .unset, .unset] [(.long (((own_a q1) + (own_b q2)) + (own_b q5)))]))
    refine own_by (fun t k => XS.lload X0.here hx rfl (hb hby at_47) rfl k) ?_
    show own_Go p.tables e below K (s₁.setTop (mkF m 49 #[.val (.long q1), .second, .val (.long q2), .second, .val (.long q3), .second, .val (.long q4), .second, .val (.long q5), .second, .val (.long (own_a q1)), .second, .val (.long ((own_a q1) + (own_b q2))), .second, .val (.long (own_a q3)), .second, .val (.long ((own_a q3) + (own_b q4))), .second, .val (.long (own_b q5)), .second, .unset, .unset] [(.long (own_a q3)), (.long (((own_a q1) + (own_b q2)) + (own_b q5)))]))
    refine own_by (fun t k => XS.lcmp X0.here hx rfl (hb hby at_49) rfl k) ?_
    show own_Go p.tables e below K (s₁.setTop (mkF m 50 #[.val (.long q1), .second, .val (.long q2), .second, .val (.long q3), .second, .val (.long q4), .second, .val (.long q5), .second, .val (.long (own_a q1)), .second, .val (.long ((own_a q1) + (own_b q2))), .second, .val (.long (own_a q3)), .second, .val (.long ((own_a q3) + (own_b q4))), .second, .val (.long (own_b q5)), .second, .unset, .unset] [(.int (lcmpW (((own_a q1) + (own_b q2)) + (own_b q5)) (own_a q3)))]))
    by_cases hc50 : (own_a q3) < (((own_a q1) + (own_b q2)) + (own_b q5))
    · refine own_by (fun t k => XS.ifYes X0.here hx rfl (pc0 := 50) (pc' := 57) rfl (hb hby at_50) rfl (own_lgt hc50).1 (by decide) (by decide) k) ?_
      show own_Go p.tables e below K (s₁.setTop (mkF m 57 #[.val (.long q1), .second, .val (.long q2), .second, .val (.long q3), .second, .val (.long q4), .second, .val (.long q5), .second, .val (.long (own_a q1)), .second, .val (.long ((own_a q1) + (own_b q2))), .second, .val (.long (own_a q3)), .second, .val (.long ((own_a q3) + (own_b q4))), .second, .val (.long (own_b q5)), .second, .unset, .unset] []))
      refine own_by (fun t k => XS.iconst X0.here hx rfl (hb hby at_57) k) ?_
      show own_Go p.tables e below K (s₁.setTop (mkF m 58 #[.val (.long q1), .second, .val (.long q2), .second, .val (.long q3), .second, .val (.long q4), .second, .val (.long q5), .second, .val (.long (own_a q1)), .second, .val (.long ((own_a q1) + (own_b q2))), .second, .val (.long (own_a q3)), .second, .val (.long ((own_a q3) + (own_b q4))), .second, .val (.long (own_b q5)), .second, .unset, .unset] [(.int (0 : Int32))]))
      refine own_by (fun t k => XS.istore X0.here hx rfl (hb hby at_58) rfl (l' := #[.val (.long q1), .second, .val (.long q2), .second, .val (.long q3), .second, .val (.long q4), .second, .val (.long q5), .second, .val (.long (own_a q1)), .second, .val (.long ((own_a q1) + (own_b q2))), .second, .val (.long (own_a q3)), .second, .val (.long ((own_a q3) + (own_b q4))), .second, .val (.long (own_b q5)), .second, .val (.int (0 : Int32)), .unset]) rfl k) ?_
      show own_Go p.tables e below K (s₁.setTop (mkF m 60 #[.val (.long q1), .second, .val (.long q2), .second, .val (.long q3), .second, .val (.long q4), .second, .val (.long q5), .second, .val (.long (own_a q1)), .second, .val (.long ((own_a q1) + (own_b q2))), .second, .val (.long (own_a q3)), .second, .val (.long ((own_a q3) + (own_b q4))), .second, .val (.long (own_b q5)), .second, .val (.int (0 : Int32)), .unset] []))
      refine own_by (fun t k => XS.goto X0.here hx rfl (pc0 := 60) (pc' := 121) rfl (hb hby at_60) (by decide) (by decide) k) ?_
      exact J121 (0 : Int32) (by simp [own_ex, *])
    · refine own_by (fun t k => XS.ifNo X0.here hx rfl (hb hby at_50) rfl (own_lle hc50).1 k) ?_
      show own_Go p.tables e below K (s₁.setTop (mkF m 53 #[.val (.long q1), .second, .val (.long q2), .second, .val (.long q3), .second, .val (.long q4), .second, .val (.long q5), .second, .val (.long (own_a q1)), .second, .val (.long ((own_a q1) + (own_b q2))), .second, .val (.long (own_a q3)), .second, .val (.long ((own_a q3) + (own_b q4))), .second, .val (.long (own_b q5)), .second, .unset, .unset] []))
      refine own_by (fun t k => XS.iconst X0.here hx rfl (hb hby at_53) k) ?_
      show own_Go p.tables e below K (s₁.setTop (mkF m 54 #[.val (.long q1), .second, .val (.long q2), .second, .val (.long q3), .second, .val (.long q4), .second, .val (.long q5), .second, .val (.long (own_a q1)), .second, .val (.long ((own_a q1) + (own_b q2))), .second, .val (.long (own_a q3)), .second, .val (.long ((own_a q3) + (own_b q4))), .second, .val (.long (own_b q5)), .second, .unset, .unset] [(.int (1 : Int32))]))
      refine own_by (fun t k => XS.goto X0.here hx rfl (pc0 := 54) (pc' := 58) rfl (hb hby at_54) (by decide) (by decide) k) ?_
      show own_Go p.tables e below K (s₁.setTop (mkF m 58 #[.val (.long q1), .second, .val (.long q2), .second, .val (.long q3), .second, .val (.long q4), .second, .val (.long q5), .second, .val (.long (own_a q1)), .second, .val (.long ((own_a q1) + (own_b q2))), .second, .val (.long (own_a q3)), .second, .val (.long ((own_a q3) + (own_b q4))), .second, .val (.long (own_b q5)), .second, .unset, .unset] [(.int (1 : Int32))]))
      refine own_by (fun t k => XS.istore X0.here hx rfl (hb hby at_58) rfl (l' := #[.val (.long q1), .second, .val (.long q2), .second, .val (.long q3), .second, .val (.long q4), .second, .val (.long q5), .second, .val (.long (own_a q1)), .second, .val (.long ((own_a q1) + (own_b q2))), .second, .val (.long (own_a q3)), .second, .val (.long ((own_a q3) + (own_b q4))), .second, .val (.long (own_b q5)), .second, .val (.int (1 : Int32)), .unset]) rfl k) ?_
      show own_Go p.tables e below K (s₁.setTop (mkF m 60 #[.val (.long q1), .second, .val (.long q2), .second, .val (.long q3), .second, .val (.long q4), .second, .val (.long q5), .second, .val (.long (own_a q1)), .second, .val (.long ((own_a q1) + (own_b q2))), .second, .val (.long (own_a q3)), .second, .val (.long ((own_a q3) + (own_b q4))), .second, .val (.long (own_b q5)), .second, .val (.int (1 : Int32)), .unset] []))
      refine own_by (fun t k => XS.goto X0.here hx rfl (pc0 := 60) (pc' := 121) rfl (hb hby at_60) (by decide) (by decide) k) ?_
      exact J121 (1 : Int32) (by simp [own_ex, *])
  · refine own_by (fun t k => XS.ifYes X0.here hx rfl (pc0 := 39) (pc' := 63) rfl (hb hby at_39) rfl (own_lge hc39).2 (by decide) (by decide) k) ?_
    show own_Go p.tables e below K (s₁.setTop (mkF m 63 #[.val (.long q1), .second, .val (.long q2), .second, .val (.long q3), .second, .val (.long q4), .second, .val (.long q5), .second, .val (.long (own_a q1)), .second, .val (.long ((own_a q1) + (own_b q2))), .second, .val (.long (own_a q3)), .second, .val (.long ((own_a q3) + (own_b q4))), .second, .val (.long (own_b q5)), .second, .unset, .unset] []))
    refine own_by (fun t k => XS.lload X0.here hx rfl (hb hby at_63) rfl k) ?_
    show own_Go p.tables e below K (s₁.setTop (mkF m 65 #[.val (.long q1), .second, .val (.long q2), .second, .val (.long q3), .second, .val (.long q4), .second, .val (.long q5), .second, .val (.long (own_a q1)), .second, .val (.long ((own_a q1) + (own_b q2))), .second, .val (.long (own_a q3)), .second, .val (.long ((own_a q3) + (own_b q4))), .second, .val (.long (own_b q5)), .second, .unset, .unset] [(.long (own_a q3))]))
    refine own_by (fun t k => XS.lload X0.here hx rfl (hb hby at_65) rfl k) ?_
    show own_Go p.tables e below K (s₁.setTop (mkF m 67 #[.val (.long q1), .second, .val (.long q2), .second, .val (.long q3), .second, .val (.long q4), .second, .val (.long q5), .second, .val (.long (own_a q1)), .second, .val (.long ((own_a q1) + (own_b q2))), .second, .val (.long (own_a q3)), .second, .val (.long ((own_a q3) + (own_b q4))), .second, .val (.long (own_b q5)), .second, .unset, .unset] [(.long (own_a q1)), (.long (own_a q3))]))
    refine own_by (fun t k => XS.lcmp X0.here hx rfl (hb hby at_67) rfl k) ?_
    show own_Go p.tables e below K (s₁.setTop (mkF m 68 #[.val (.long q1), .second, .val (.long q2), .second, .val (.long q3), .second, .val (.long q4), .second, .val (.long q5), .second, .val (.long (own_a q1)), .second, .val (.long ((own_a q1) + (own_b q2))), .second, .val (.long (own_a q3)), .second, .val (.long ((own_a q3) + (own_b q4))), .second, .val (.long (own_b q5)), .second, .unset, .unset] [(.int (lcmpW (own_a q3) (own_a q1)))]))
    by_cases hc68 : (own_a q3) < (own_a q1)
    · refine own_by (fun t k => XS.ifNo X0.here hx rfl (hb hby at_68) rfl (own_llt hc68).2 k) ?_
      show own_Go p.tables e below K (s₁.setTop (mkF m 71 #[.val (.long q1), .second, .val (.long q2), .second, .val (.long q3), .second, .val (.long q4), .second, .val (.long q5), .second, .val (.long (own_a q1)), .second, .val (.long ((own_a q1) + (own_b q2))), .second, .val (.long (own_a q3)), .second, .val (.long ((own_a q3) + (own_b q4))), .second, .val (.long (own_b q5)), .second, .unset, .unset] []))
      refine own_by (fun t k => XS.lload X0.here hx rfl (hb hby at_71) rfl k) ?_
      show own_Go p.tables e below K (s₁.setTop (mkF m 73 #[.val (.long q1), .second, .val (.long q2), .second, .val (.long q3), .second, .val (.long q4), .second, .val (.long q5), .second, .val (.long (own_a q1)), .second, .val (.long ((own_a q1) + (own_b q2))), .second, .val (.long (own_a q3)), .second, .val (.long ((own_a q3) + (own_b q4))), .second, .val (.long (own_b q5)), .second, .unset, .unset] [(.long ((own_a q3) + (own_b q4)))]))
      refine own_by (fun t k => XS.lload X0.here hx rfl (hb hby at_73) rfl k) ?_
      show own_Go p.tables e below K (s₁.setTop (mkF m 75 #[.val (.long q1), .second, .val (.long q2), .second, .val (.long q3), .second, .val (.long q4), .second, .val (.long q5), .second, .val (.long (own_a q1)), .second, .val (.long ((own_a q1) + (own_b q2))), .second, .val (.long (own_a q3)), .second, .val (.long ((own_a q3) + (own_b q4))), .second, .val (.long (own_b q5)), .second, .unset, .unset] [(.long (own_b q5)), (.long ((own_a q3) + (own_b q4)))]))
      refine own_by (fun t k => XS.ladd X0.here hx rfl (hb hby at_75) rfl k) ?_
      show own_Go p.tables e below K (s₁.setTop (mkF m 76 #[.val (.long q1), .second, .val (.long q2), .second, .val (.long q3), .second, .val (.long q4), .second, .val (.long q5), .second, .val (.long (own_a q1)), .second, .val (.long ((own_a q1) + (own_b q2))), .second, .val (.long (own_a q3)), .second, .val (.long ((own_a q3) + (own_b q4))), .second, .val (.long (own_b q5)), .second, .unset, .unset] [(.long (((own_a q3) + (own_b q4)) + (own_b q5)))]))
      refine own_by (fun t k => XS.lload X0.here hx rfl (hb hby at_76) rfl k) ?_
      show own_Go p.tables e below K (s₁.setTop (mkF m 78 #[.val (.long q1), .second, .val (.long q2), .second, .val (.long q3), .second, .val (.long q4), .second, .val (.long q5), .second, .val (.long (own_a q1)), .second, .val (.long ((own_a q1) + (own_b q2))), .second, .val (.long (own_a q3)), .second, .val (.long ((own_a q3) + (own_b q4))), .second, .val (.long (own_b q5)), .second, .unset, .unset] [(.long (own_a q1)), (.long (((own_a q3) + (own_b q4)) + (own_b q5)))]))
      refine own_by (fun t k => XS.lcmp X0.here hx rfl (hb hby at_78) rfl k) ?_
      show own_Go p.tables e below K (s₁.setTop (mkF m 79 #[.val (.long q1), .second, .val (.long q2), .second, .val (.long q3), .second, .val (.long q4), .second, .val (.long q5), .second, .val (.long (own_a q1)), .second, .val (.long ((own_a q1) + (own_b q2))), .second, .val (.long (own_a q3)), .second, .val (.long ((own_a q3) + (own_b q4))), .second, .val (.long (own_b q5)), .second, .unset, .unset] [(.int (lcmpW (((own_a q3) + (own_b q4)) + (own_b q5)) (own_a q1)))]))
      by_cases hc79 : (own_a q1) < (((own_a q3) + (own_b q4)) + (own_b q5))
      · refine own_by (fun t k => XS.ifYes X0.here hx rfl (pc0 := 79) (pc' := 86) rfl (hb hby at_79) rfl (own_lgt hc79).1 (by decide) (by decide) k) ?_
        show own_Go p.tables e below K (s₁.setTop (mkF m 86 #[.val (.long q1), .second, .val (.long q2), .second, .val (.long q3), .second, .val (.long q4), .second, .val (.long q5), .second, .val (.long (own_a q1)), .second, .val (.long ((own_a q1) + (own_b q2))), .second, .val (.long (own_a q3)), .second, .val (.long ((own_a q3) + (own_b q4))), .second, .val (.long (own_b q5)), .second, .unset, .unset] []))
        refine own_by (fun t k => XS.iconst X0.here hx rfl (hb hby at_86) k) ?_
        show own_Go p.tables e below K (s₁.setTop (mkF m 87 #[.val (.long q1), .second, .val (.long q2), .second, .val (.long q3), .second, .val (.long q4), .second, .val (.long q5), .second, .val (.long (own_a q1)), .second, .val (.long ((own_a q1) + (own_b q2))), .second, .val (.long (own_a q3)), .second, .val (.long ((own_a q3) + (own_b q4))), .second, .val (.long (own_b q5)), .second, .unset, .unset] [(.int (0 : Int32))]))
        refine own_by (fun t k => XS.istore X0.here hx rfl (hb hby at_87) rfl (l' := #[.val (.long q1), .second, .val (.long q2), .second, .val (.long q3), .second, .val (.long q4), .second, .val (.long q5), .second, .val (.long (own_a q1)), .second, .val (.long ((own_a q1) + (own_b q2))), .second, .val (.long (own_a q3)), .second, .val (.long ((own_a q3) + (own_b q4))), .second, .val (.long (own_b q5)), .second, .val (.int (0 : Int32)), .unset]) rfl k) ?_
        show own_Go p.tables e below K (s₁.setTop (mkF m 89 #[.val (.long q1), .second, .val (.long q2), .second, .val (.long q3), .second, .val (.long q4), .second, .val (.long q5), .second, .val (.long (own_a q1)), .second, .val (.long ((own_a q1) + (own_b q2))), .second, .val (.long (own_a q3)), .second, .val (.long ((own_a q3) + (own_b q4))), .second, .val (.long (own_b q5)), .second, .val (.int (0 : Int32)), .unset] []))
        refine own_by (fun t k => XS.goto X0.here hx rfl (pc0 := 89) (pc' := 121) rfl (hb hby at_89) (by decide) (by decide) k) ?_
        exact J121 (0 : Int32) (by simp [own_ex, *])
      · refine own_by (fun t k => XS.ifNo X0.here hx rfl (hb hby at_79) rfl (own_lle hc79).1 k) ?_
        show own_Go p.tables e below K (s₁.setTop (mkF m 82 #[.val (.long q1), .second, .val (.long q2), .second, .val (.long q3), .second, .val (.long q4), .second, .val (.long q5), .second, .val (.long (own_a q1)), .second, .val (.long ((own_a q1) + (own_b q2))), .second, .val (.long (own_a q3)), .second, .val (.long ((own_a q3) + (own_b q4))), .second, .val (.long (own_b q5)), .second, .unset, .unset] []))
        refine own_by (fun t k => XS.iconst X0.here hx rfl (hb hby at_82) k) ?_
        show own_Go p.tables e below K (s₁.setTop (mkF m 83 #[.val (.long q1), .second, .val (.long q2), .second, .val (.long q3), .second, .val (.long q4), .second, .val (.long q5), .second, .val (.long (own_a q1)), .second, .val (.long ((own_a q1) + (own_b q2))), .second, .val (.long (own_a q3)), .second, .val (.long ((own_a q3) + (own_b q4))), .second, .val (.long (own_b q5)), .second, .unset, .unset] [(.int (1 : Int32))]))
        refine own_by (fun t k => XS.goto X0.here hx rfl (pc0 := 83) (pc' := 87) rfl (hb hby at_83) (by decide) (by decide) k) ?_
        show own_Go p.tables e below K (s₁.setTop (mkF m 87 #[.val (.long q1), .second, .val (.long q2), .second, .val (.long q3), .second, .val (.long q4), .second, .val (.long q5), .second, .val (.long (own_a q1)), .second, .val (.long ((own_a q1) + (own_b q2))), .second, .val (.long (own_a q3)), .second, .val (.long ((own_a q3) + (own_b q4))), .second, .val (.long (own_b q5)), .second, .unset, .unset] [(.int (1 : Int32))]))
        refine own_by (fun t k => XS.istore X0.here hx rfl (hb hby at_87) rfl (l' := #[.val (.long q1), .second, .val (.long q2), .second, .val (.long q3), .second, .val (.long q4), .second, .val (.long q5), .second, .val (.long (own_a q1)), .second, .val (.long ((own_a q1) + (own_b q2))), .second, .val (.long (own_a q3)), .second, .val (.long ((own_a q3) + (own_b q4))), .second, .val (.long (own_b q5)), .second, .val (.int (1 : Int32)), .unset]) rfl k) ?_
        show own_Go p.tables e below K (s₁.setTop (mkF m 89 #[.val (.long q1), .second, .val (.long q2), .second, .val (.long q3), .second, .val (.long q4), .second, .val (.long q5), .second, .val (.long (own_a q1)), .second, .val (.long ((own_a q1) + (own_b q2))), .second, .val (.long (own_a q3)), .second, .val (.long ((own_a q3) + (own_b q4))), .second, .val (.long (own_b q5)), .second, .val (.int (1 : Int32)), .unset] []))
        refine own_by (fun t k => XS.goto X0.here hx rfl (pc0 := 89) (pc' := 121) rfl (hb hby at_89) (by decide) (by decide) k) ?_
        exact J121 (1 : Int32) (by simp [own_ex, *])
    · refine own_by (fun t k => XS.ifYes X0.here hx rfl (pc0 := 68) (pc' := 92) rfl (hb hby at_68) rfl (own_lge hc68).2 (by decide) (by decide) k) ?_
      show own_Go p.tables e below K (s₁.setTop (mkF m 92 #[.val (.long q1), .second, .val (.long q2), .second, .val (.long q3), .second, .val (.long q4), .second, .val (.long q5), .second, .val (.long (own_a q1)), .second, .val (.long ((own_a q1) + (own_b q2))), .second, .val (.long (own_a q3)), .second, .val (.long ((own_a q3) + (own_b q4))), .second, .val (.long (own_b q5)), .second, .unset, .unset] []))
      refine own_by (fun t k => XS.lload X0.here hx rfl (hb hby at_92) rfl k) ?_
      show own_Go p.tables e below K (s₁.setTop (mkF m 94 #[.val (.long q1), .second, .val (.long q2), .second, .val (.long q3), .second, .val (.long q4), .second, .val (.long q5), .second, .val (.long (own_a q1)), .second, .val (.long ((own_a q1) + (own_b q2))), .second, .val (.long (own_a q3)), .second, .val (.long ((own_a q3) + (own_b q4))), .second, .val (.long (own_b q5)), .second, .unset, .unset] [(.long ((own_a q1) + (own_b q2)))]))
      refine own_by (fun t k => XS.lload X0.here hx rfl (hb hby at_94) rfl k) ?_
      show own_Go p.tables e below K (s₁.setTop (mkF m 96 #[.val (.long q1), .second, .val (.long q2), .second, .val (.long q3), .second, .val (.long q4), .second, .val (.long q5), .second, .val (.long (own_a q1)), .second, .val (.long ((own_a q1) + (own_b q2))), .second, .val (.long (own_a q3)), .second, .val (.long ((own_a q3) + (own_b q4))), .second, .val (.long (own_b q5)), .second, .unset, .unset] [(.long (own_b q5)), (.long ((own_a q1) + (own_b q2)))]))
      refine own_by (fun t k => XS.ladd X0.here hx rfl (hb hby at_96) rfl k) ?_
      show own_Go p.tables e below K (s₁.setTop (mkF m 97 #[.val (.long q1), .second, .val (.long q2), .second, .val (.long q3), .second, .val (.long q4), .second, .val (.long q5), .second, .val (.long (own_a q1)), .second, .val (.long ((own_a q1) + (own_b q2))), .second, .val (.long (own_a q3)), .second, .val (.long ((own_a q3) + (own_b q4))), .second, .val (.long (own_b q5)), .second, .unset, .unset] [(.long (((own_a q1) + (own_b q2)) + (own_b q5)))]))
      refine own_by (fun t k => XS.lload X0.here hx rfl (hb hby at_97) rfl k) ?_
      show own_Go p.tables e below K (s₁.setTop (mkF m 99 #[.val (.long q1), .second, .val (.long q2), .second, .val (.long q3), .second, .val (.long q4), .second, .val (.long q5), .second, .val (.long (own_a q1)), .second, .val (.long ((own_a q1) + (own_b q2))), .second, .val (.long (own_a q3)), .second, .val (.long ((own_a q3) + (own_b q4))), .second, .val (.long (own_b q5)), .second, .unset, .unset] [(.long (own_a q3)), (.long (((own_a q1) + (own_b q2)) + (own_b q5)))]))
      refine own_by (fun t k => XS.lcmp X0.here hx rfl (hb hby at_99) rfl k) ?_
      show own_Go p.tables e below K (s₁.setTop (mkF m 100 #[.val (.long q1), .second, .val (.long q2), .second, .val (.long q3), .second, .val (.long q4), .second, .val (.long q5), .second, .val (.long (own_a q1)), .second, .val (.long ((own_a q1) + (own_b q2))), .second, .val (.long (own_a q3)), .second, .val (.long ((own_a q3) + (own_b q4))), .second, .val (.long (own_b q5)), .second, .unset, .unset] [(.int (lcmpW (((own_a q1) + (own_b q2)) + (own_b q5)) (own_a q3)))]))
      by_cases hc100 : (own_a q3) < (((own_a q1) + (own_b q2)) + (own_b q5))
      · refine own_by (fun t k => XS.ifNo X0.here hx rfl (hb hby at_100) rfl (own_lgt hc100).2 k) ?_
        show own_Go p.tables e below K (s₁.setTop (mkF m 103 #[.val (.long q1), .second, .val (.long q2), .second, .val (.long q3), .second, .val (.long q4), .second, .val (.long q5), .second, .val (.long (own_a q1)), .second, .val (.long ((own_a q1) + (own_b q2))), .second, .val (.long (own_a q3)), .second, .val (.long ((own_a q3) + (own_b q4))), .second, .val (.long (own_b q5)), .second, .unset, .unset] []))
        refine own_by (fun t k => XS.lload X0.here hx rfl (hb hby at_103) rfl k) ?_
        show own_Go p.tables e below K (s₁.setTop (mkF m 105 #[.val (.long q1), .second, .val (.long q2), .second, .val (.long q3), .second, .val (.long q4), .second, .val (.long q5), .second, .val (.long (own_a q1)), .second, .val (.long ((own_a q1) + (own_b q2))), .second, .val (.long (own_a q3)), .second, .val (.long ((own_a q3) + (own_b q4))), .second, .val (.long (own_b q5)), .second, .unset, .unset] [(.long ((own_a q3) + (own_b q4)))]))
        refine own_by (fun t k => XS.lload X0.here hx rfl (hb hby at_105) rfl k) ?_
        show own_Go p.tables e below K (s₁.setTop (mkF m 107 #[.val (.long q1), .second, .val (.long q2), .second, .val (.long q3), .second, .val (.long q4), .second, .val (.long q5), .second, .val (.long (own_a q1)), .second, .val (.long ((own_a q1) + (own_b q2))), .second, .val (.long (own_a q3)), .second, .val (.long ((own_a q3) + (own_b q4))), .second, .val (.long (own_b q5)), .second, .unset, .unset] [(.long (own_b q5)), (.long ((own_a q3) + (own_b q4)))]))
        refine own_by (fun t k => XS.ladd X0.here hx rfl (hb hby at_107) rfl k) ?_
        show own_Go p.tables e below K (s₁.setTop (mkF m 108 #[.val (.long q1), .second, .val (.long q2), .second, .val (.long q3), .second, .val (.long q4), .second, .val (.long q5), .second, .val (.long (own_a q1)), .second, .val (.long ((own_a q1) + (own_b q2))), .second, .val (.long (own_a q3)), .second, .val (.long ((own_a q3) + (own_b q4))), .second, .val (.long (own_b q5)), .second, .unset, .unset] [(.long (((own_a q3) + (own_b q4)) + (own_b q5)))]))
        refine own_by (fun t k => XS.lload X0.here hx rfl (hb hby at_108) rfl k) ?_
        show own_Go p.tables e below K (s₁.setTop (mkF m 110 #[.val (.long q1), .second, .val (.long q2), .second, .val (.long q3), .second, .val (.long q4), .second, .val (.long q5), .second, .val (.long (own_a q1)), .second, .val (.long ((own_a q1) + (own_b q2))), .second, .val (.long (own_a q3)), .second, .val (.long ((own_a q3) + (own_b q4))), .second, .val (.long (own_b q5)), .second, .unset, .unset] [(.long (own_a q1)), (.long (((own_a q3) + (own_b q4)) + (own_b q5)))]))
        refine own_by (fun t k => XS.lcmp X0.here hx rfl (hb hby at_110) rfl k) ?_
        show own_Go p.tables e below K (s₁.setTop (mkF m 111 #[.val (.long q1), .second, .val (.long q2), .second, .val (.long q3), .second, .val (.long q4), .second, .val (.long q5), .second, .val (.long (own_a q1)), .second, .val (.long ((own_a q1) + (own_b q2))), .second, .val (.long (own_a q3)), .second, .val (.long ((own_a q3) + (own_b q4))), .second, .val (.long (own_b q5)), .second, .unset, .unset] [(.int (lcmpW (((own_a q3) + (own_b q4)) + (own_b q5)) (own_a q1)))]))
        by_cases hc111 : (own_a q1) < (((own_a q3) + (own_b q4)) + (own_b q5))
        · refine own_by (fun t k => XS.ifYes X0.here hx rfl (pc0 := 111) (pc' := 118) rfl (hb hby at_111) rfl (own_lgt hc111).1 (by decide) (by decide) k) ?_
          show own_Go p.tables e below K (s₁.setTop (mkF m 118 #[.val (.long q1), .second, .val (.long q2), .second, .val (.long q3), .second, .val (.long q4), .second, .val (.long q5), .second, .val (.long (own_a q1)), .second, .val (.long ((own_a q1) + (own_b q2))), .second, .val (.long (own_a q3)), .second, .val (.long ((own_a q3) + (own_b q4))), .second, .val (.long (own_b q5)), .second, .unset, .unset] []))
          refine own_by (fun t k => XS.iconst X0.here hx rfl (hb hby at_118) k) ?_
          show own_Go p.tables e below K (s₁.setTop (mkF m 119 #[.val (.long q1), .second, .val (.long q2), .second, .val (.long q3), .second, .val (.long q4), .second, .val (.long q5), .second, .val (.long (own_a q1)), .second, .val (.long ((own_a q1) + (own_b q2))), .second, .val (.long (own_a q3)), .second, .val (.long ((own_a q3) + (own_b q4))), .second, .val (.long (own_b q5)), .second, .unset, .unset] [(.int (0 : Int32))]))
          refine own_by (fun t k => XS.istore X0.here hx rfl (hb hby at_119) rfl (l' := #[.val (.long q1), .second, .val (.long q2), .second, .val (.long q3), .second, .val (.long q4), .second, .val (.long q5), .second, .val (.long (own_a q1)), .second, .val (.long ((own_a q1) + (own_b q2))), .second, .val (.long (own_a q3)), .second, .val (.long ((own_a q3) + (own_b q4))), .second, .val (.long (own_b q5)), .second, .val (.int (0 : Int32)), .unset]) rfl k) ?_
          exact J121 (0 : Int32) (by simp [own_ex, *])
        · refine own_by (fun t k => XS.ifNo X0.here hx rfl (hb hby at_111) rfl (own_lle hc111).1 k) ?_
          show own_Go p.tables e below K (s₁.setTop (mkF m 114 #[.val (.long q1), .second, .val (.long q2), .second, .val (.long q3), .second, .val (.long q4), .second, .val (.long q5), .second, .val (.long (own_a q1)), .second, .val (.long ((own_a q1) + (own_b q2))), .second, .val (.long (own_a q3)), .second, .val (.long ((own_a q3) + (own_b q4))), .second, .val (.long (own_b q5)), .second, .unset, .unset] []))
          refine own_by (fun t k => XS.iconst X0.here hx rfl (hb hby at_114) k) ?_
          show own_Go p.tables e below K (s₁.setTop (mkF m 115 #[.val (.long q1), .second, .val (.long q2), .second, .val (.long q3), .second, .val (.long q4), .second, .val (.long q5), .second, .val (.long (own_a q1)), .second, .val (.long ((own_a q1) + (own_b q2))), .second, .val (.long (own_a q3)), .second, .val (.long ((own_a q3) + (own_b q4))), .second, .val (.long (own_b q5)), .second, .unset, .unset] [(.int (1 : Int32))]))
          refine own_by (fun t k => XS.goto X0.here hx rfl (pc0 := 115) (pc' := 119) rfl (hb hby at_115) (by decide) (by decide) k) ?_
          show own_Go p.tables e below K (s₁.setTop (mkF m 119 #[.val (.long q1), .second, .val (.long q2), .second, .val (.long q3), .second, .val (.long q4), .second, .val (.long q5), .second, .val (.long (own_a q1)), .second, .val (.long ((own_a q1) + (own_b q2))), .second, .val (.long (own_a q3)), .second, .val (.long ((own_a q3) + (own_b q4))), .second, .val (.long (own_b q5)), .second, .unset, .unset] [(.int (1 : Int32))]))
          refine own_by (fun t k => XS.istore X0.here hx rfl (hb hby at_119) rfl (l' := #[.val (.long q1), .second, .val (.long q2), .second, .val (.long q3), .second, .val (.long q4), .second, .val (.long q5), .second, .val (.long (own_a q1)), .second, .val (.long ((own_a q1) + (own_b q2))), .second, .val (.long (own_a q3)), .second, .val (.long ((own_a q3) + (own_b q4))), .second, .val (.long (own_b q5)), .second, .val (.int (1 : Int32)), .unset]) rfl k) ?_
          exact J121 (1 : Int32) (by simp [own_ex, *])
      · refine own_by (fun t k => XS.ifYes X0.here hx rfl (pc0 := 100) (pc' := 114) rfl (hb hby at_100) rfl (own_lle hc100).2 (by decide) (by decide) k) ?_
        show own_Go p.tables e below K (s₁.setTop (mkF m 114 #[.val (.long q1), .second, .val (.long q2), .second, .val (.long q3), .second, .val (.long q4), .second, .val (.long q5), .second, .val (.long (own_a q1)), .second, .val (.long ((own_a q1) + (own_b q2))), .second, .val (.long (own_a q3)), .second, .val (.long ((own_a q3) + (own_b q4))), .second, .val (.long (own_b q5)), .second, .unset, .unset] []))
        refine own_by (fun t k => XS.iconst X0.here hx rfl (hb hby at_114) k) ?_
        show own_Go p.tables e below K (s₁.setTop (mkF m 115 #[.val (.long q1), .second, .val (.long q2), .second, .val (.long q3), .second, .val (.long q4), .second, .val (.long q5), .second, .val (.long (own_a q1)), .second, .val (.long ((own_a q1) + (own_b q2))), .second, .val (.long (own_a q3)), .second, .val (.long ((own_a q3) + (own_b q4))), .second, .val (.long (own_b q5)), .second, .unset, .unset] [(.int (1 : Int32))]))
        refine own_by (fun t k => XS.goto X0.here hx rfl (pc0 := 115) (pc' := 119) rfl (hb hby at_115) (by decide) (by decide) k) ?_
        show own_Go p.tables e below K (s₁.setTop (mkF m 119 #[.val (.long q1), .second, .val (.long q2), .second, .val (.long q3), .second, .val (.long q4), .second, .val (.long q5), .second, .val (.long (own_a q1)), .second, .val (.long ((own_a q1) + (own_b q2))), .second, .val (.long (own_a q3)), .second, .val (.long ((own_a q3) + (own_b q4))), .second, .val (.long (own_b q5)), .second, .unset, .unset] [(.int (1 : Int32))]))
        refine own_by (fun t k => XS.istore X0.here hx rfl (hb hby at_119) rfl (l' := #[.val (.long q1), .second, .val (.long q2), .second, .val (.long q3), .second, .val (.long q4), .second, .val (.long q5), .second, .val (.long (own_a q1)), .second, .val (.long ((own_a q1) + (own_b q2))), .second, .val (.long (own_a q3)), .second, .val (.long ((own_a q3) + (own_b q4))), .second, .val (.long (own_b q5)), .second, .val (.int (1 : Int32)), .unset]) rfl k) ?_
        exact J121 (1 : Int32) (by simp [own_ex, *])
set_option maxRecDepth 65536 in
set_option maxHeartbeats 40000000 in
theorem own_comes {Post : Tables → Env → Array Value → State → Outcome → State → Prop} (hpost : ∀ tb e args s v u, (limb_1_1.after args s (.returned v) u = true ∧ limb_1_2.after args s (.returned v) u = true ∧ True) → FrameEnd s (.returned v) u (Jvm.fieldLocs frame_1_writes args s ++ Jvm.arrayLocs frame_1_arrays args s ++ Jvm.staticLocs frame_1_statics s) 0 0 → Post tb e args s (.returned v) u) :
    ArmFor flags0 classFile x code maxLocals ret World_1 tables_1 room_1 Calls_1 rest_1 Pre_1 Post := by
  intro l hfl _ _ p e ha hc hk s m args below hf hA hF happ hP
  obtain ⟨hcalls, hrest, hpre⟩ := hP
  obtain ⟨-, -, -, hnamed, -, -, -, hat⟩ := (Spec.applies_iff hf).mp happ
  obtain ⟨hg, hn⟩ := and_e (Cond.before_iff.mp (show (Jvm.Cond.and given_1 narrow_1).before args s = true from hpre))
  obtain ⟨hcount, g0⟩ := and_e hg
  obtain ⟨a0, g1⟩ := and_e g0
  obtain ⟨a1, g2⟩ := and_e g1
  obtain ⟨a2, g3⟩ := and_e g2
  obtain ⟨a3, g4⟩ := and_e g3
  obtain ⟨w0, w1, w2, w3, w4, rfl⟩ : ∃ w0 w1 w2 w3 w4 : Value, args = #[w0, w1, w2, w3, w4] := by
    have hs : args.size = 5 := by simpa [Cond.value, given_1] using hcount
    obtain ⟨L⟩ := args
    match L, hs with
    | [w0, w1, w2, w3, w4], _ => exact ⟨w0, w1, w2, w3, w4, rfl⟩
  have hw := fun d (hd : d ∈ tables_1) => atoms_spec (ws := Jvm.Cond.code x code maxLocals ret :: tables_1) hat d (List.mem_cons_of_mem _ hd)
  have hfit : Fit s := fun {y c} hc i hi => by
    obtain ⟨ha, rfl⟩ := Array.getElem?_eq_some_iff.mp hc
    have q := List.all_eq_true.mp ((Array.all_eq_true_iff_forall_mem.mp hF) _ (Array.getElem_mem ha)) i (List.mem_range.mpr hi)
    simpa [Array.getElem?_eq_getElem hi] using q
  obtain ⟨i0, ei0⟩ := isL_v a0
  obtain rfl : w0 = (.long i0) := Option.some.inj ei0
  obtain ⟨i1, ei1⟩ := isL_v a1
  obtain rfl : w1 = (.long i1) := Option.some.inj ei1
  obtain ⟨i2, ei2⟩ := isL_v a2
  obtain rfl : w2 = (.long i2) := Option.some.inj ei2
  obtain ⟨i3, ei3⟩ := isL_v a3
  obtain rfl : w3 = (.long i3) := Option.some.inj ei3
  obtain ⟨i4, ei4⟩ := isL_v g4
  obtain rfl : w4 = (.long i4) := Option.some.inj ei4
  obtain ⟨n, o, h1, h2, h3, _, L, rfl, ⟨rfl, N⟩, hq⟩ := own_rm0 l s _ hw tables_1 i0 i1 i2 i3 i4 s.heap s.heap.size (Nat.le_refl _)  p e ha hc hk s m _ below hf ((Spec.applies_iff_loose hf).mp happ).1 ⟨rfl, State.Warmed39.refl s, rfl⟩ trivial
  refine ⟨n, _, h1, h2, h3, hpost _ _ _ _ _ _ ⟨Cond.after_iff.mpr rfl, Cond.after_iff.mpr (eq_i res_at (Term.int_eval (1)) rfl), trivial⟩ ⟨hq.1, hq.2.1, (hq.2.2.sift fun y hy => Or.inr (N y hy)).mono (by decide) (by decide)⟩⟩
theorem main_1_1 : Claimed_1_1 := own_comes fun _ _ _ _ _ _ h hF => ⟨h.1, hF⟩
theorem main_1_2 : Claimed_1_2 := own_comes fun _ _ _ _ _ _ h hF => ⟨h.2.1, hF⟩
end Jvm.Pilot.@@N@@
namespace Jvm.Pilot.@@N@@
open Jvm Jvm.ClassFile Sem Op Lib Jvm.Free Jvm.Stand Jvm.Pilot.@@N@@.Jvm.D
/-! MADE BY PROGRAM (witnessworld.py) out of the Statement's table words and the real class files: 9 classes; the members and pool entries that the words name. The judged class is class 1, her method 1. -/
namespace start1
open Jvm.ClassFile
def u (s : String) : CpInfo := .utf8 (stringToUtf16 s)
/-- a pool by its gaps: so many unusable entries, then the entry; so many at the end -/
def gap : Nat → List CpInfo → List CpInfo
  | 0, r => r
  | n + 1, r => .unusable :: gap n r
def poolList (es : List (Nat × CpInfo)) (last : Nat) : List CpInfo := es.foldr (fun e r => gap e.1 (e.2 :: r)) (gap last [])
def pool (es : List (Nat × CpInfo)) (last : Nat) : Array CpInfo := ⟨poolList es last⟩
def fileOf (pool : Array CpInfo) (this : Nat) (attrs : Array Attribute := #[]) (ms : Array MethodInfo := #[]) (fl : Nat := 33) (sup : Nat := 0) (ifs : Array Nat := #[]) (fds : Array FieldInfo := #[]) : ClassFile where
  minorVersion := 0
  majorVersion := 65
  constantPool := pool
  accessFlags := fl
  thisClass := this
  superClass := sup
  interfaces := ifs
  fields := fds
  methods := ms
  attributes := attrs
def plain (name : String) (sup : Option ClassId) : Class where
  name := name
  kind := .ordinary
  loader := none
  accessFlags := 33
  super := sup
  interfaces := #[]
  cf := none
  fields := #[]
  methods := #[]
  instanceTypes := #[]
  staticTypes := #[]
  resolved := #[]
  callSites := []
  init := .initialized
  statics := none
  mirror := none

def pool0 : Array CpInfo := pool [(5, u "<init>"), (0, u "()V"), (1, .class_ 10), (1, u "java/lang/Object")] 113

def k0m0 : Method := { name := "<init>", desc := "()V", sig := { parameters := [], returnType := none }, accessFlags := 1, code := none }
/-- java/lang/Object -/
def k0 : Class := { plain "java/lang/Object" none with
  accessFlags := 33
  interfaces := #[]
  cf := some (fileOf pool0 8 #[] #[{ accessFlags := 1, nameIndex := 5, descriptorIndex := 6, attributes := #[] }] 33 0 #[] #[])
  fields := #[]
  methods := #[k0m0]
  instanceTypes := #[]
  staticTypes := #[]
  resolved := Array.replicate 124 none
  statics := none }

def pool1 : Array CpInfo := pool [(2, .class_ 4), (1, u "java/lang/Object"), (0, u "<init>"), (0, u "()V"), (0, .methodref 8 9), (0, .class_ 10), (0, .nameAndType 11 12), (0, u "com/example/skyroster/skyroster/Rules"), (0, u "separated"), (0, u "(JJJJJ)Z"), (0, .class_ 14), (0, u "com/example/skyroster/skyroster/RulesSeparatedPinLaw"), (2, u "law")] 3

def k1m0 : Method := { name := "<init>", desc := "()V", sig := { parameters := [], returnType := none }, accessFlags := 2, code := none }
def k1c1 : Code := { maxStack := 10, maxLocals := 22, code := code, exceptionTable := #[], attributes := #[] }
def k1m1 : Method := { name := "law", desc := "(JJJJJ)Z", sig := { parameters := [.long, .long, .long, .long, .long], returnType := some .boolean }, accessFlags := 9, code := some k1c1 }
/-- com/example/skyroster/skyroster/RulesSeparatedPinLaw -/
def k1 : Class := { plain "com/example/skyroster/skyroster/RulesSeparatedPinLaw" (some 0) with
  accessFlags := 49
  interfaces := #[]
  cf := some (fileOf pool1 13 #[] #[{ accessFlags := 2, nameIndex := 5, descriptorIndex := 6, attributes := #[] }, { accessFlags := 9, nameIndex := 17, descriptorIndex := 12, attributes := #[] }] 49 2 #[] #[])
  fields := #[]
  methods := #[k1m0, k1m1]
  instanceTypes := #[]
  staticTypes := #[]
  resolved := Array.replicate 21 none
  statics := none }

def pool2 : Array CpInfo := pool [(2, .class_ 4), (1, u "java/lang/Object"), (0, u "<init>"), (0, u "()V"), (61, .class_ 69), (0, u "com/example/skyroster/skyroster/Rules"), (53, u "separated"), (0, u "(JJJJJ)Z"), (0, u "SECONDS_PER_DAY"), (0, u "J")] 12

def k2m0 : Method := { name := "<init>", desc := "()V", sig := { parameters := [], returnType := none }, accessFlags := 2, code := none }
def k2c1 : Code := { maxStack := 4, maxLocals := 10, code := prog_13_method_4_code, exceptionTable := #[], attributes := #[] }
def k2m1 : Method := { name := "separated", desc := "(JJJJJ)Z", sig := { parameters := [.long, .long, .long, .long, .long], returnType := some .boolean }, accessFlags := 9, code := some k2c1 }
/-- com/example/skyroster/skyroster/Rules -/
def k2 : Class := { plain "com/example/skyroster/skyroster/Rules" (some 0) with
  accessFlags := 49
  interfaces := #[]
  cf := some (fileOf pool2 68 #[] #[{ accessFlags := 2, nameIndex := 5, descriptorIndex := 6, attributes := #[] }, { accessFlags := 9, nameIndex := 123, descriptorIndex := 124, attributes := #[] }] 49 2 #[] #[{ accessFlags := 25, nameIndex := 125, descriptorIndex := 126, attributes := #[] }])
  fields := #[{ name := "SECONDS_PER_DAY", type := .long, accessFlags := 25, slot := 0, constantValue := 0 }]
  methods := #[k2m0, k2m1]
  instanceTypes := #[]
  staticTypes := #[.long]
  resolved := Array.replicate 139 none
  statics := none }

def pool3 : Array CpInfo := pool [(1, u "java/lang/Cloneable"), (0, .class_ 1), (0, u "java/lang/Object"), (0, .class_ 3)] 3

/-- java/lang/Cloneable -/
def k3 : Class := { plain "java/lang/Cloneable" (some 0) with
  accessFlags := 1537
  interfaces := #[]
  cf := some (fileOf pool3 2 #[] #[] 1537 4 #[] #[])
  fields := #[]
  methods := #[]
  instanceTypes := #[]
  staticTypes := #[]
  resolved := Array.replicate 8 none
  statics := none }

def pool4 : Array CpInfo := pool [(1, u "java/io/Serializable"), (0, .class_ 1), (0, u "java/lang/Object"), (0, .class_ 3)] 3

/-- java/io/Serializable -/
def k4 : Class := { plain "java/io/Serializable" (some 0) with
  accessFlags := 1537
  interfaces := #[]
  cf := some (fileOf pool4 2 #[] #[] 1537 4 #[] #[])
  fields := #[]
  methods := #[]
  instanceTypes := #[]
  staticTypes := #[]
  resolved := Array.replicate 8 none
  statics := none }

/-- the primitive byte -/
def k5 : Class := { plain "byte" none with kind := .primitive 'B', accessFlags := 0x411 }
/-- [B -/
def k6 : Class := { plain "[B" (some 0) with kind := .array 5 .byte, interfaces := #[3, 4], accessFlags := 1041 }

/-- the primitive int -/
def k7 : Class := { plain "int" none with kind := .primitive 'I', accessFlags := 0x411 }
/-- [I -/
def k8 : Class := { plain "[I" (some 0) with kind := .array 7 .int, interfaces := #[3, 4], accessFlags := 1041 }

def heap : Heap := #[]
def classes : Array Class := #[k0, k1, k2, k3, k4, k5, k6, k7, k8]
def interned : List (Array UInt16 × Addr) := []
def slotsUsed : Nat := 0
def theMethod : MethodId := ⟨1, 1⟩
def args0 : Array Value := #[.long 5, .long 6, .long 7, .long 8, .long 9]
def aboutOver (below : List Frame) : State where
  vm := { classes := classes, interned := interned.toArray }
  heap := heap
  slotsUsed := slotsUsed
  threads := #[{ frames := .invoking theMethod args0 :: below }]
def below0 : List Frame := [.native { method := ⟨0, 0⟩, args := #[] }]
def about1 : State := aboutOver below0
def p0 : Program := .bare "" "" ""
def e0 : Env := launch0.env 0 0 0
theorem w_frames : about1.frames = Frame.invoking theMethod args0 :: below0 := rfl
set_option maxRecDepth 65536 in
theorem w_args : argsFit about1.vm theMethod args0 = true := by decide +kernel
set_option maxRecDepth 65536 in
theorem w_heap : heapFits about1 = true := by decide +kernel
set_option maxRecDepth 65536 in
theorem w_runnable : about1.curStatus? = some .runnable := by decide +kernel
set_option maxRecDepth 65536 in
theorem w_alone : about1.alone = true := by decide +kernel
set_option maxRecDepth 65536 in
theorem w_named : about1.methodNamed? x = some theMethod := by decide +kernel
set_option maxRecDepth 65536 in
theorem w_hears : about1.hears theMethod below0 = true := by decide +kernel
set_option maxRecDepth 65536 in
theorem w_ripe : about1.ripe theMethod args0 below0 = true := by decide +kernel
theorem w_running : about1.status = .running := rfl
set_option maxRecDepth 65536 in
theorem w_room : about1.hasRoom e0.platform room_1 = true :=
  launch0.hasRoom_least _ room_1 (by decide +kernel) (by decide +kernel) (by decide +kernel) (by decide +kernel) (by decide +kernel) (by decide +kernel)
theorem allAtoms_all (ts : List Jvm.Cond) (a : Array Jvm.Value) (st : Jvm.State) : (allAtoms ts).before a st = ts.all (fun c => c.before a st) := by
  induction ts with
  | nil => rfl
  | cons c t ih =>
    show (Jvm.Cond.and c (allAtoms t)).before a st = _
    rw [Jvm.Cond.before_and, ih, List.all_cons]
def words1 : List Jvm.Cond := Jvm.Cond.code x code maxLocals ret :: tables_1
/-- a 'code' word, met by the world's own term for the bytes: nothing is compared byte by byte -/
theorem code_word {y : MethodName} {bytes : ByteArray} {mx : Nat} {rt : Option FieldType} {a : Array Value} {s : State} {m : MethodId} {meth : Method} {c : Code} (h1 : s.methodNamed? y = some m) (h2 : s.vm.method? m = some meth) (h3 : meth.code = some c) (h4 : c.code = bytes)
    (h5 : (c.maxLocals == mx && c.exceptionTable.isEmpty && decide (c.maxStack ≤ mostOperands) && decide (meth.sig.returnType = rt) && !meth.locks && decide (parseMethodDescriptor y.desc = some meth.sig)) = true) : (Jvm.Cond.code y bytes mx rt).before a s = true := by
  simp only [Bool.and_eq_true, beq_iff_eq, Bool.not_eq_true', decide_eq_true_eq] at h5
  obtain ⟨⟨⟨⟨⟨g1, g2⟩, g3⟩, g4⟩, g5⟩, g6⟩ := h5
  simp [Cond.before, Cond.holds, Cond.value, h1, h2, h3, h4, g1, g2, g3, g4, g5, g6]
def isCode : Jvm.Cond → Bool
  | .code _ _ _ _ => true
  | _ => false
theorem all_split {L : List Jvm.Cond} {P : Jvm.Cond → Bool} (h1 : L.all (fun c => isCode c || P c) = true) (h2 : ∀ c ∈ L.filter isCode, P c = true) : L.all P = true := by
  refine List.all_eq_true.mpr fun c hc => ?_
  have h := List.all_eq_true.mp h1 c hc
  rcases Bool.eq_false_or_eq_true (isCode c) with hi | hi
  · exact h2 c (List.mem_filter.mpr ⟨hc, hi⟩)
  · simpa [hi] using h
set_option maxRecDepth 65536 in
theorem w_c0 : (Jvm.Cond.code x code maxLocals ret).before args0 about1 = true := code_word (m := ⟨1, 1⟩) (meth := k1m1) (c := k1c1) (by decide +kernel) rfl rfl rfl (by decide +kernel)
set_option maxRecDepth 65536 in
theorem w_c1 : (Jvm.Cond.code ({ cls := "com/example/skyroster/skyroster/Rules", name := "separated", desc := "(JJJJJ)Z" } : Jvm.MethodName) prog_13_method_4_code (10 : Nat) (Option.some Jvm.ClassFile.FieldType.boolean)).before args0 about1 = true := code_word (m := ⟨2, 1⟩) (meth := k2m1) (c := k2c1) (by decide +kernel) rfl rfl rfl (by decide +kernel)
def codes1 : List Jvm.Cond := [Jvm.Cond.code x code maxLocals ret, Jvm.Cond.code ({ cls := "com/example/skyroster/skyroster/Rules", name := "separated", desc := "(JJJJJ)Z" } : Jvm.MethodName) prog_13_method_4_code (10 : Nat) (Option.some Jvm.ClassFile.FieldType.boolean)]
set_option maxRecDepth 65536 in
theorem codes_eq : words1.filter isCode = codes1 := rfl
theorem w_codes : ∀ c ∈ words1.filter isCode, c.before args0 about1 = true := by
  rw [codes_eq]
  intro c hc
  simp only [codes1, List.mem_cons, List.not_mem_nil, or_false] at hc
  rcases hc with rfl | rfl
  · exact w_c0
  · exact w_c1
set_option maxRecDepth 65536 in
theorem w_t1 : words1.all (fun c => isCode c || c.before args0 about1) = true := by decide +kernel
theorem w_tables : (allAtoms (Jvm.Cond.code x code maxLocals ret :: tables_1)).before args0 about1 = true := by
  rw [allAtoms_all]
  show words1.all (fun c => c.before args0 about1) = true
  refine all_split ?_ w_codes
  rw [w_t1]
set_option maxRecDepth 65536 in
theorem w_case : (Jvm.Cond.and given_1 narrow_1).before args0 about1 = true := by decide +kernel
theorem w_applies : (headSpec (Jvm.Cond.code x code maxLocals ret :: tables_1) room_1).applies x e0.platform about1 = true :=
  (Spec.applies_iff w_frames).mpr ⟨w_running, w_runnable, w_alone, w_named, w_hears, w_ripe, w_room, w_tables⟩
theorem atStart : AtStart classFile x code maxLocals ret World_1 tables_1 room_1 Calls_1 rest_1 Pre_1 launch0 p0 e0 about1 theMethod args0 below0 :=
  ⟨lists_1, trivial, launch0.admits_env _ _ _, launch0.least_env, fairChoices_fair.cas, fairChoices_fair.clock, w_frames, w_args, w_heap, w_applies, trivial, trivial, w_case⟩
end start1
theorem witness_1 : WitnessClaimed_1 := ⟨start1.p0, start1.e0, start1.about1, start1.theMethod, start1.args0, start1.below0, start1.atStart⟩
end Jvm.Pilot.@@N@@
