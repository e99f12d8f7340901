import JvmDerived
import JvmDerived.Pilot.@@N@@Statement
import JvmDerived.Pilot.@@N@@Code
set_option linter.unusedVariables false
set_option linter.unusedSimpArgs false
namespace Jvm.Pilot.@@N@@
open Jvm Jvm.ClassFile Sem Op Lib Jvm.Free Jvm.Stand Jvm.LawKit Jvm.RoadKit Bundle Jvm.Pilot.@@N@@.Jvm.D
/-- from U the run comes to a state of which K holds -/
def own_Go (tb : Tables) (e : Env) (below : List Frame) (K : State → Prop) (U : State) : Prop := ∃ t, Steps tb e below U t ∧ K t
theorem own_by {tb : Tables} {e : Env} {below : List Frame} {K : State → Prop} {U U' : State} (k : ∀ t, Steps tb e below U' t → Steps tb e below U t) (h : own_Go tb e below K U') : own_Go tb e below K U := by
  obtain ⟨t, a, b⟩ := h
  exact ⟨t, k t a, b⟩
/-- what a returning instruction needs: the frames that it leaves, and that K holds there -/
def own_Out (e : Env) (m : MethodId) (K : State → Prop) (T : State) (v : Option Value) : Prop := ∃ fs, (∀ (f : JFrame) (acts : List Action), f.method = m → f.locked = none → f.entered = [] → (doReturn e (T.setTop f) acts v).1 = T.setFrames fs) ∧ K (T.setFrames fs)
theorem own_met {l : Launch} {y : MethodName} {bytes : ByteArray} {ml : Nat} {ret : Option FieldType} {ws : List Jvm.Cond} {rm : Room} {as' : Array Value} {Z : State} {h0 : Heap} {k n : Nat} {Q : Option Value → Heap → List Loc → Prop} (hp : plainFor y = true)
    (body : ∀ (p : Program) (e : Env) (s : State) (m : MethodId) (below : List Frame) (meth : Method) (c : Code) (s₁ : State) (K : State → Prop), p.tables.exec = Jvm.exec → c.code = bytes → c.maxLocals = ml → s.vm.findClass y.cls = some m.cls → meth.name = y.name → meth.sig.returnType = ret →
      Z.Warmed39 s.vm → Stand p l e rm s m as' below meth c s₁ [] 0 0 → s₁.heap = h0 →
      (∀ (v : Option Value) {T : State} {L : List Loc} {k' n' : Nat}, Stand p l e rm s m as' below meth c T L k' n' → (meth.sig.returnType = none → v = none) → Q v T.heap L → k' ≤ k → n' ≤ n → own_Out e m K T v) →
      own_Go p.tables e below K (s₁.setTop (entryFrame m as' ml))) :
    MetFree l y (head1 (Jvm.Cond.code y bytes ml ret :: ws) rm) (fun a U => a = as' ∧ Z.Warmed39 U.vm ∧ U.heap = h0) (fun _ _ _ _ _ => True) (fun _ U o U' => ∃ v L, o = .returned v ∧ Q v U'.heap L ∧ FrameEnd U o U' L k n) := by
  refine MetFree.of_bodySF hp hisR ?_
  intro p e s m args below meth c s₁ Bd hml0 hP hK
  obtain ⟨rfl, hZ, hh⟩ := hP
  have hown : s.vm.findClass y.cls = some m.cls := findClass_of_methodNamed Bd.named
  obtain ⟨t, hs, o, h1, h2, h3⟩ := body p e s m below meth c s₁ (fun t => ∃ o, t.status = .running ∧ Ended t below o ∧ ∃ v L, o = .returned v ∧ Q v t.heap L ∧ FrameEnd s o t L k n) Bd.exec Bd.bytes hml0 hown (name_of_methodNamed Bd.named Bd.method).1 Bd.returns hZ (Stand.of_body Bd) (by rw [← hh, Bd.state]; rfl) (by
    intro v T L k' n' X hv hq hk hn
    obtain ⟨fs, hr, hrun, hended, hW, hsame⟩ := X.leave (v := v) hv
    exact ⟨fs, hr, _, hrun, hended, v, L, rfl, hq, ⟨_, rfl⟩, hW, hsame.mono hk hn⟩)
  exact ⟨t, o, hs, h1, h2, h3⟩
section OwnRet
variable {p : Program} {l : Launch} {e : Env} {R : Room} {s : State} {m : MethodId} {args : Array Value} {below : List Frame} {meth : Method} {c : Code} {T : State} {locs : List Loc} {cells slots : Nat} {K : State → Prop}
theorem own_retI (X : Stand p l e R s m args below meth c T locs cells slots) (hx : p.tables.exec = Jvm.exec) (hret : meth.sig.returnType = some .int) {pc : Nat} {Ls : Array Slot} {z : Int32} {rest : List Value} (hd : decode c.code pc = .ok (.ireturn, 1)) (hq : own_Out e m K T (some (.int z))) : own_Go p.tables e below K (T.setTop (mkF m pc Ls (.int z :: rest))) := by
  obtain ⟨fs, hr, hk⟩ := hq
  exact ⟨_, retOut X hx hret rfl (Or.inl ⟨rfl, Or.inl rfl, _, rfl⟩) hd hr, hk⟩
theorem own_retZ (X : Stand p l e R s m args below meth c T locs cells slots) (hx : p.tables.exec = Jvm.exec) {t : FieldType} (hret : meth.sig.returnType = some t) (ht : t = .boolean ∨ t = .byte ∨ t = .char ∨ t = .short) {pc : Nat} {Ls : Array Slot} {z : Int32} {rest : List Value} (hd : decode c.code pc = .ok (.ireturn, 1)) (hq : own_Out e m K T (some (.int (nar t z)))) : own_Go p.tables e below K (T.setTop (mkF m pc Ls (.int z :: rest))) := by
  obtain ⟨fs, hr, hk⟩ := hq
  exact ⟨_, retN X hx hret ht hd hr, hk⟩
theorem own_retJ (X : Stand p l e R s m args below meth c T locs cells slots) (hx : p.tables.exec = Jvm.exec) (hret : meth.sig.returnType = some .long) {pc : Nat} {Ls : Array Slot} {z : Int64} {rest : List Value} (hd : decode c.code pc = .ok (.lreturn, 1)) (hq : own_Out e m K T (some (.long z))) : own_Go p.tables e below K (T.setTop (mkF m pc Ls (.long z :: rest))) := by
  obtain ⟨fs, hr, hk⟩ := hq
  exact ⟨_, retOut X hx hret rfl (Or.inr (Or.inl ⟨rfl, rfl, _, rfl⟩)) hd hr, hk⟩
theorem own_retA (X : Stand p l e R s m args below meth c T locs cells slots) (hx : p.tables.exec = Jvm.exec) {t : FieldType} (hret : meth.sig.returnType = some t) (ht : t.isReference = true) {pc : Nat} {Ls : Array Slot} {w : Value} {rest : List Value} (hn : narrow t w = w) (hw : w.isRef = true) (hd : decode c.code pc = .ok (.areturn, 1)) (hq : own_Out e m K T (some w)) : own_Go p.tables e below K (T.setTop (mkF m pc Ls (w :: rest))) := by
  obtain ⟨fs, hr, hk⟩ := hq
  exact ⟨_, retOut X hx hret hn (Or.inr (Or.inr (Or.inr (Or.inr ⟨rfl, ht, hw⟩)))) hd hr, hk⟩
theorem own_retV (X : Stand p l e R s m args below meth c T locs cells slots) (hx : p.tables.exec = Jvm.exec) (hret : meth.sig.returnType = none) {pc : Nat} {Ls : Array Slot} (hd : decode c.code pc = .ok (.return_, 1)) (hq : own_Out e m K T none) : own_Go p.tables e below K (T.setTop (mkF m pc Ls [])) := by
  obtain ⟨fs, hr, hk⟩ := hq
  exact ⟨_, X.returnOut hx hret hd hr, hk⟩
end OwnRet
theorem own_nar {C : String} {w : Value} (h : w.isRef = true) : narrow (.object C) w = w := by cases w <;> rfl
theorem own_fit {C : String} {w : Value} (h : w.isRef = true) : fits (.object C) w = true := by cases w <;> first | rfl | (simp [Value.isRef] at h)
theorem own_more {p : Program} {l : Launch} {e : Env} {R : Room} {s : State} {m : MethodId} {args : Array Value} {below : List Frame} {meth : Method} {c : Code} {T : State} {locs : List Loc} {k n k' n' : Nat} (X : Stand p l e R s m args below meth c T locs k n) (hk : k ≤ k') (hn : n ≤ n') : Stand p l e R s m args below meth c T locs k' n' := { X with same := X.same.mono hk hn }
/-- a condition as 0 or 1 -/
def own_tern (x : Int32) : Int32 := if x = 0 then 0 else 1
theorem own_t0 {x : Int32} (h : x = 0) : own_tern x = 0 := if_pos h
theorem own_t1 {x : Int32} (h : ¬ x = 0) : own_tern x = 1 := if_neg h
theorem own_t01 (x : Int32) : own_tern x = 0 ∨ own_tern x = 1 := by unfold own_tern; split <;> simp
theorem own_nb {x : Int32} (h : x = 0 ∨ x = 1) : nar .boolean x = x := by rcases h with rfl | rfl <;> rfl
theorem own_b53 (x : Int32) : B53 x.toInt64 := by
  have h1 := x.toInt_lt; have h2 := x.le_toInt
  unfold B53
  rw [Int32.toInt_toInt64]
  omega
theorem own_i64 (x y : Int32) : x.toInt64 < y.toInt64 ↔ x < y := by rw [Int64.lt_iff_toInt_lt, Int32.lt_iff_toInt_lt, Int32.toInt_toInt64, Int32.toInt_toInt64]
theorem own_ni {x y : Int32} (h : ¬ x = y) {n : Int} (e : y.toInt = n) : ¬ x.toInt = n := fun q => h (Int32.toInt_inj.mp (q.trans e.symm))
theorem own_llt {x y : Int64} (h : x < y) : ifCond.holds .lt (lcmpW x y) = true ∧ ifCond.holds .ge (lcmpW x y) = false := by
  have q := tlt (by rw [lcW]; exact (lc_lt x y).mpr h : lcmpW x y < 0)
  exact ⟨(if0 _ _).trans q.1, (if0 _ _).trans q.2.1⟩
theorem own_lge {x y : Int64} (h : ¬ x < y) : ifCond.holds .lt (lcmpW x y) = false ∧ ifCond.holds .ge (lcmpW x y) = true := by
  have q := flt (by rw [lcW]; exact fun z => h ((lc_lt x y).mp z) : ¬ lcmpW x y < 0)
  exact ⟨(if0 _ _).trans q.1, (if0 _ _).trans q.2.1⟩
theorem own_lgt {x y : Int64} (h : y < x) : ifCond.holds .gt (lcmpW x y) = true ∧ ifCond.holds .le (lcmpW x y) = false := by
  have q := tlt (by rw [lcW]; exact (lc_gt x y).mpr h : 0 < lcmpW x y)
  exact ⟨(if0 _ _).trans q.2.2.1, (if0 _ _).trans q.2.2.2⟩
theorem own_lle {x y : Int64} (h : ¬ y < x) : ifCond.holds .gt (lcmpW x y) = false ∧ ifCond.holds .le (lcmpW x y) = true := by
  have q := flt (by rw [lcW]; exact fun z => h ((lc_gt x y).mp z) : ¬ 0 < lcmpW x y)
  exact ⟨(if0 _ _).trans q.2.2.1, (if0 _ _).trans q.2.2.2⟩
theorem own_leq {x y : Int64} (h : x = y) : ifCond.holds .eq (lcmpW x y) = true ∧ ifCond.holds .ne (lcmpW x y) = false := by
  have q := teq (by rw [lcW]; exact (lc_eq x y).mpr h : lcmpW x y = 0)
  exact ⟨(if0 _ _).trans q.1, (if0 _ _).trans q.2⟩
theorem own_lne {x y : Int64} (h : ¬ x = y) : ifCond.holds .eq (lcmpW x y) = false ∧ ifCond.holds .ne (lcmpW x y) = true := by
  have q := feq (by rw [lcW]; exact fun z => h ((lc_eq x y).mp z) : ¬ lcmpW x y = 0)
  exact ⟨(if0 _ _).trans q.1, (if0 _ _).trans q.2⟩
def own_sp (t p : Int32) : Int32 := if t = 7 ∨ (t = 6 ∧ 0 < p ∧ ¬ 24 < p) then 1 else 0
def own_bf (t : Int32) : Int32 := if t = 6 ∨ t = 7 ∨ t = 8 then 1 else 0
def own_db (t p d : Int32) : Int32 := if own_sp t p = 0 then 0 else d
/-- what is known of a ColumnDescription -/
def own_CD (Z : State) (h : Heap) (a : Addr) (t p d : Int32) : Prop := Exa Z h a "com/example/deliberate_session/deliberatesession/mapping/ColumnDescription" ∧ Fld Z h a "com/example/deliberate_session/deliberatesession/mapping/ColumnDescription" "sqlType" "I" (.int t) ∧ Fld Z h a "com/example/deliberate_session/deliberatesession/mapping/ColumnDescription" "precision" "I" (.int p) ∧ Fld Z h a "com/example/deliberate_session/deliberatesession/mapping/ColumnDescription" "singlePrecisionDigits" "I" (.int d)
def own_pt (s r : Int32) : Int32 := if s = 0 then 7 else if s = 1 then 6 else if s = 2 then 8 else r
def own_pp (s r : Int32) : Int32 := if s = 0 then 0 else if s = 1 then 1 else if s = 2 then 24 else if s = 3 then 25 else if s = 4 then -1 else if s = 5 then -2147483648 else if s = 6 then 2147483647 else r
theorem own_p1 (p : Int32) : p.toInt64 < 1 ↔ ¬ 0 < p := by rw [Int64.lt_iff_toInt_lt, Int32.lt_iff_toInt_lt, Int32.toInt_toInt64]; show p.toInt < 1 ↔ ¬ 0 < p.toInt; omega
theorem own_p24 (p : Int32) : (24 : Int64) < p.toInt64 ↔ 24 < p := by rw [Int64.lt_iff_toInt_lt, Int32.lt_iff_toInt_lt, Int32.toInt_toInt64]; show 24 < p.toInt ↔ 24 < p.toInt; exact Iff.rfl
theorem own_s7 {t p : Int32} (h : t = 7) : own_sp t p = 1 := if_pos (Or.inl h)
theorem own_sa {t p : Int32} (h7 : ¬ t = 7) (h : p.toInt64 < 1) : own_sp t p = 0 := if_neg fun z => z.elim h7 fun q => (own_p1 p).mp h q.2.1
theorem own_sb {t p : Int32} (h7 : ¬ t = 7) (h : (24 : Int64) < p.toInt64) : own_sp t p = 0 := if_neg fun z => z.elim h7 fun q => q.2.2 ((own_p24 p).mp h)
theorem own_sc {t p : Int32} (h6 : t = 6) (h : ¬ p.toInt64 < 1) (h' : ¬ (24 : Int64) < p.toInt64) : own_sp t p = 1 := if_pos (Or.inr ⟨h6, Classical.byContradiction fun q => h ((own_p1 p).mpr q), fun q => h' ((own_p24 p).mpr q)⟩)
theorem own_sn {t p : Int32} (h7 : ¬ t = 7) (h6 : ¬ t = 6) : own_sp t p = 0 := if_neg fun z => z.elim h7 fun q => h6 q.1
theorem own_pn1 : plainName "com/example/deliberate_session/deliberatesession/mapping/ColumnDescriptionSinglePrecisionPinLaw" = true := by first | (simp [plainName, overriddenIn]; done) | decide +kernel
theorem own_d1_0 : decode method_2_code 0 = .ok (.iload_n 0, 1) := by decide +kernel
theorem own_d1_1 : decode method_2_code 1 = .ok (.ifCond .ne 6, 3) := by decide +kernel
theorem own_d1_4 : decode method_2_code 4 = .ok (.bipush 7, 2) := by decide +kernel
theorem own_d1_6 : decode method_2_code 6 = .ok (.ireturn, 1) := by decide +kernel
theorem own_d1_7 : decode method_2_code 7 = .ok (.iload_n 0, 1) := by decide +kernel
theorem own_d1_8 : decode method_2_code 8 = .ok (.iconst 1, 1) := by decide +kernel
theorem own_d1_9 : decode method_2_code 9 = .ok (.if_icmp .ne 6, 3) := by decide +kernel
theorem own_d1_12 : decode method_2_code 12 = .ok (.bipush 6, 2) := by decide +kernel
theorem own_d1_14 : decode method_2_code 14 = .ok (.ireturn, 1) := by decide +kernel
theorem own_d1_15 : decode method_2_code 15 = .ok (.iload_n 0, 1) := by decide +kernel
theorem own_d1_16 : decode method_2_code 16 = .ok (.iconst 2, 1) := by decide +kernel
theorem own_d1_17 : decode method_2_code 17 = .ok (.if_icmp .ne 6, 3) := by decide +kernel
theorem own_d1_20 : decode method_2_code 20 = .ok (.bipush 8, 2) := by decide +kernel
theorem own_d1_22 : decode method_2_code 22 = .ok (.ireturn, 1) := by decide +kernel
theorem own_d1_23 : decode method_2_code 23 = .ok (.iload_n 1, 1) := by decide +kernel
theorem own_d1_24 : decode method_2_code 24 = .ok (.ireturn, 1) := by decide +kernel
theorem own_efpt (m : MethodId) (q1 : Int32) (q2 : Int32) : entryFrame m #[(.int q1), (.int q2)] 2 = mkF m 0 #[.val (.int q1), .val (.int q2)] [] := by first | (simp [entryFrame, mkF, argsToLocals, Value.category]; done) | rfl
def own_Qpt (Z : State) (q1 : Int32) (q2 : Int32) (h0 : Heap) (n0 : Nat) (v : Option Value) (h : Heap) (L : List Loc) : Prop := v = some (.int (own_pt q1 q2)) ∧ Fr n0 L ∧ h = h0
set_option maxRecDepth 65536 in
set_option maxHeartbeats 40000000 in
theorem own_rmpt (l : Launch) (Z : State) (aw : Array Value) (hw : ∀ d ∈ tables_1, d.before aw Z = true) (ws : List Jvm.Cond) (q1 : Int32) (q2 : Int32) (h0 : Heap) (n0 : Nat) (Z0 : n0 ≤ h0.size)  :
    MetFree l (⟨"com/example/deliberate_session/deliberatesession/mapping/ColumnDescriptionSinglePrecisionPinLaw", "pickType", "(II)I"⟩ : MethodName) (head1 (Jvm.Cond.code (⟨"com/example/deliberate_session/deliberatesession/mapping/ColumnDescriptionSinglePrecisionPinLaw", "pickType", "(II)I"⟩ : MethodName) method_2_code 2 (some .int) :: ws) ({ frames := 0, cells := 0, slots := 0, locals := 0 } : Room)) (fun a U => a = #[(.int q1), (.int q2)] ∧ Z.Warmed39 U.vm ∧ U.heap = h0) (fun _ _ _ _ _ => True) (fun _ U o U' => ∃ v L, o = .returned v ∧ own_Qpt Z q1 q2 h0 n0 v U'.heap L ∧ FrameEnd U o U' L ({ frames := 0, cells := 0, slots := 0, locals := 0 } : Room).cells ({ frames := 0, cells := 0, slots := 0, locals := 0 } : Room).slots) := by
  refine own_met (Q := own_Qpt Z q1 q2 h0 n0) (plainFor_of_name own_pn1) ?_
  intro p e s m below meth c s₁ K hx hby hml hown hnm hret hZ X0 e0 hK
  have hown : s.vm.findClass "com/example/deliberate_session/deliberatesession/mapping/ColumnDescriptionSinglePrecisionPinLaw" = some m.cls := hown
  have N0 := Fr.nil n0
  refine own_by (fun t k => castTop (own_efpt m q1 q2) k) ?_
  show own_Go p.tables e below K (s₁.setTop (mkF m 0 #[.val (.int q1), .val (.int q2)] []))
  refine own_by (fun t k => XS.iloadN X0.here hx rfl (hb hby own_d1_0) rfl k) ?_
  show own_Go p.tables e below K (s₁.setTop (mkF m 1 #[.val (.int q1), .val (.int q2)] [(.int q1)]))
  by_cases hc1 : q1 = (0 : Int32)
  · refine own_by (fun t k => XS.ifNo X0.here hx rfl (hb hby own_d1_1) rfl ((if0 _ _).trans (teq hc1).2) k) ?_
    show own_Go p.tables e below K (s₁.setTop (mkF m 4 #[.val (.int q1), .val (.int q2)] []))
    refine own_by (fun t k => XS.bipush X0.here hx rfl (hb hby own_d1_4) k) ?_
    show own_Go p.tables e below K (s₁.setTop (mkF m 6 #[.val (.int q1), .val (.int q2)] [(.int (7 : Int32))]))
    exact own_retI X0 hx hret (hb hby own_d1_6) (hK (some (.int (7 : Int32))) X0 (fun h => by rw [hret] at h; cases h) (⟨by simp [own_pt, *], N0, e0⟩) (by decide) (by decide))
  · refine own_by (fun t k => XS.ifYes X0.here hx rfl (pc0 := 1) (pc' := 7) rfl (hb hby own_d1_1) rfl ((if0 _ _).trans (feq hc1).2) (by decide) (by decide) k) ?_
    show own_Go p.tables e below K (s₁.setTop (mkF m 7 #[.val (.int q1), .val (.int q2)] []))
    refine own_by (fun t k => XS.iloadN X0.here hx rfl (hb hby own_d1_7) rfl k) ?_
    show own_Go p.tables e below K (s₁.setTop (mkF m 8 #[.val (.int q1), .val (.int q2)] [(.int q1)]))
    refine own_by (fun t k => XS.iconst X0.here hx rfl (hb hby own_d1_8) k) ?_
    show own_Go p.tables e below K (s₁.setTop (mkF m 9 #[.val (.int q1), .val (.int q2)] [(.int (1 : Int32)), (.int q1)]))
    by_cases hc9 : q1 = (1 : Int32)
    · refine own_by (fun t k => XS.icmpNo X0.here hx rfl (hb hby own_d1_9) rfl (teq hc9).2 k) ?_
      show own_Go p.tables e below K (s₁.setTop (mkF m 12 #[.val (.int q1), .val (.int q2)] []))
      refine own_by (fun t k => XS.bipush X0.here hx rfl (hb hby own_d1_12) k) ?_
      show own_Go p.tables e below K (s₁.setTop (mkF m 14 #[.val (.int q1), .val (.int q2)] [(.int (6 : Int32))]))
      exact own_retI X0 hx hret (hb hby own_d1_14) (hK (some (.int (6 : Int32))) X0 (fun h => by rw [hret] at h; cases h) (⟨by simp [own_pt, *], N0, e0⟩) (by decide) (by decide))
    · refine own_by (fun t k => XS.icmpYes X0.here hx rfl (pc0 := 9) (pc' := 15) rfl (hb hby own_d1_9) rfl (feq hc9).2 (by decide) (by decide) k) ?_
      show own_Go p.tables e below K (s₁.setTop (mkF m 15 #[.val (.int q1), .val (.int q2)] []))
      refine own_by (fun t k => XS.iloadN X0.here hx rfl (hb hby own_d1_15) rfl k) ?_
      show own_Go p.tables e below K (s₁.setTop (mkF m 16 #[.val (.int q1), .val (.int q2)] [(.int q1)]))
      refine own_by (fun t k => XS.iconst X0.here hx rfl (hb hby own_d1_16) k) ?_
      show own_Go p.tables e below K (s₁.setTop (mkF m 17 #[.val (.int q1), .val (.int q2)] [(.int (2 : Int32)), (.int q1)]))
      by_cases hc17 : q1 = (2 : Int32)
      · refine own_by (fun t k => XS.icmpNo X0.here hx rfl (hb hby own_d1_17) rfl (teq hc17).2 k) ?_
        show own_Go p.tables e below K (s₁.setTop (mkF m 20 #[.val (.int q1), .val (.int q2)] []))
        refine own_by (fun t k => XS.bipush X0.here hx rfl (hb hby own_d1_20) k) ?_
        show own_Go p.tables e below K (s₁.setTop (mkF m 22 #[.val (.int q1), .val (.int q2)] [(.int (8 : Int32))]))
        exact own_retI X0 hx hret (hb hby own_d1_22) (hK (some (.int (8 : Int32))) X0 (fun h => by rw [hret] at h; cases h) (⟨by simp [own_pt, *], N0, e0⟩) (by decide) (by decide))
      · refine own_by (fun t k => XS.icmpYes X0.here hx rfl (pc0 := 17) (pc' := 23) rfl (hb hby own_d1_17) rfl (feq hc17).2 (by decide) (by decide) k) ?_
        show own_Go p.tables e below K (s₁.setTop (mkF m 23 #[.val (.int q1), .val (.int q2)] []))
        refine own_by (fun t k => XS.iloadN X0.here hx rfl (hb hby own_d1_23) rfl k) ?_
        show own_Go p.tables e below K (s₁.setTop (mkF m 24 #[.val (.int q1), .val (.int q2)] [(.int q2)]))
        exact own_retI X0 hx hret (hb hby own_d1_24) (hK (some (.int q2)) X0 (fun h => by rw [hret] at h; cases h) (⟨by simp [own_pt, *], N0, e0⟩) (by decide) (by decide))
theorem own_d2_0 : decode method_3_code 0 = .ok (.iload_n 0, 1) := by decide +kernel
theorem own_d2_1 : decode method_3_code 1 = .ok (.ifCond .ne 5, 3) := by decide +kernel
theorem own_d2_4 : decode method_3_code 4 = .ok (.iconst 0, 1) := by decide +kernel
theorem own_d2_5 : decode method_3_code 5 = .ok (.ireturn, 1) := by decide +kernel
theorem own_d2_6 : decode method_3_code 6 = .ok (.iload_n 0, 1) := by decide +kernel
theorem own_d2_7 : decode method_3_code 7 = .ok (.iconst 1, 1) := by decide +kernel
theorem own_d2_8 : decode method_3_code 8 = .ok (.if_icmp .ne 5, 3) := by decide +kernel
theorem own_d2_11 : decode method_3_code 11 = .ok (.iconst 1, 1) := by decide +kernel
theorem own_d2_12 : decode method_3_code 12 = .ok (.ireturn, 1) := by decide +kernel
theorem own_d2_13 : decode method_3_code 13 = .ok (.iload_n 0, 1) := by decide +kernel
theorem own_d2_14 : decode method_3_code 14 = .ok (.iconst 2, 1) := by decide +kernel
theorem own_d2_15 : decode method_3_code 15 = .ok (.if_icmp .ne 6, 3) := by decide +kernel
theorem own_d2_18 : decode method_3_code 18 = .ok (.bipush 24, 2) := by decide +kernel
theorem own_d2_20 : decode method_3_code 20 = .ok (.ireturn, 1) := by decide +kernel
theorem own_d2_21 : decode method_3_code 21 = .ok (.iload_n 0, 1) := by decide +kernel
theorem own_d2_22 : decode method_3_code 22 = .ok (.iconst 3, 1) := by decide +kernel
theorem own_d2_23 : decode method_3_code 23 = .ok (.if_icmp .ne 6, 3) := by decide +kernel
theorem own_d2_26 : decode method_3_code 26 = .ok (.bipush 25, 2) := by decide +kernel
theorem own_d2_28 : decode method_3_code 28 = .ok (.ireturn, 1) := by decide +kernel
theorem own_d2_29 : decode method_3_code 29 = .ok (.iload_n 0, 1) := by decide +kernel
theorem own_d2_30 : decode method_3_code 30 = .ok (.iconst 4, 1) := by decide +kernel
theorem own_d2_31 : decode method_3_code 31 = .ok (.if_icmp .ne 5, 3) := by decide +kernel
theorem own_d2_34 : decode method_3_code 34 = .ok (.iconst (-1), 1) := by decide +kernel
theorem own_d2_35 : decode method_3_code 35 = .ok (.ireturn, 1) := by decide +kernel
theorem own_d2_36 : decode method_3_code 36 = .ok (.iload_n 0, 1) := by decide +kernel
theorem own_d2_37 : decode method_3_code 37 = .ok (.iconst 5, 1) := by decide +kernel
theorem own_d2_38 : decode method_3_code 38 = .ok (.if_icmp .ne 6, 3) := by decide +kernel
theorem own_d2_41 : decode method_3_code 41 = .ok (.ldc 9, 2) := by decide +kernel
theorem own_d2_43 : decode method_3_code 43 = .ok (.ireturn, 1) := by decide +kernel
theorem own_d2_44 : decode method_3_code 44 = .ok (.iload_n 0, 1) := by decide +kernel
theorem own_d2_45 : decode method_3_code 45 = .ok (.bipush 6, 2) := by decide +kernel
theorem own_d2_47 : decode method_3_code 47 = .ok (.if_icmp .ne 6, 3) := by decide +kernel
theorem own_d2_50 : decode method_3_code 50 = .ok (.ldc 10, 2) := by decide +kernel
theorem own_d2_52 : decode method_3_code 52 = .ok (.ireturn, 1) := by decide +kernel
theorem own_d2_53 : decode method_3_code 53 = .ok (.iload_n 1, 1) := by decide +kernel
theorem own_d2_54 : decode method_3_code 54 = .ok (.ireturn, 1) := by decide +kernel
theorem own_efpp (m : MethodId) (q1 : Int32) (q2 : Int32) : entryFrame m #[(.int q1), (.int q2)] 2 = mkF m 0 #[.val (.int q1), .val (.int q2)] [] := by first | (simp [entryFrame, mkF, argsToLocals, Value.category]; done) | rfl
def own_Qpp (Z : State) (q1 : Int32) (q2 : Int32) (h0 : Heap) (n0 : Nat) (v : Option Value) (h : Heap) (L : List Loc) : Prop := v = some (.int (own_pp q1 q2)) ∧ Fr n0 L ∧ h = h0
set_option maxRecDepth 65536 in
set_option maxHeartbeats 40000000 in
theorem own_rmpp (l : Launch) (Z : State) (aw : Array Value) (hw : ∀ d ∈ tables_1, d.before aw Z = true) (ws : List Jvm.Cond) (q1 : Int32) (q2 : Int32) (h0 : Heap) (n0 : Nat) (Z0 : n0 ≤ h0.size)  :
    MetFree l (⟨"com/example/deliberate_session/deliberatesession/mapping/ColumnDescriptionSinglePrecisionPinLaw", "pickPrecision", "(II)I"⟩ : MethodName) (head1 (Jvm.Cond.code (⟨"com/example/deliberate_session/deliberatesession/mapping/ColumnDescriptionSinglePrecisionPinLaw", "pickPrecision", "(II)I"⟩ : MethodName) method_3_code 2 (some .int) :: ws) ({ frames := 0, cells := 0, slots := 0, locals := 0 } : Room)) (fun a U => a = #[(.int q1), (.int q2)] ∧ Z.Warmed39 U.vm ∧ U.heap = h0) (fun _ _ _ _ _ => True) (fun _ U o U' => ∃ v L, o = .returned v ∧ own_Qpp Z q1 q2 h0 n0 v U'.heap L ∧ FrameEnd U o U' L ({ frames := 0, cells := 0, slots := 0, locals := 0 } : Room).cells ({ frames := 0, cells := 0, slots := 0, locals := 0 } : Room).slots) := by
  refine own_met (Q := own_Qpp Z q1 q2 h0 n0) (plainFor_of_name own_pn1) ?_
  intro p e s m below meth c s₁ K hx hby hml hown hnm hret hZ X0 e0 hK
  have hown : s.vm.findClass "com/example/deliberate_session/deliberatesession/mapping/ColumnDescriptionSinglePrecisionPinLaw" = some m.cls := hown
  have N0 := Fr.nil n0
  refine own_by (fun t k => castTop (own_efpp m q1 q2) k) ?_
  show own_Go p.tables e below K (s₁.setTop (mkF m 0 #[.val (.int q1), .val (.int q2)] []))
  refine own_by (fun t k => XS.iloadN X0.here hx rfl (hb hby own_d2_0) rfl k) ?_
  show own_Go p.tables e below K (s₁.setTop (mkF m 1 #[.val (.int q1), .val (.int q2)] [(.int q1)]))
  by_cases hc1 : q1 = (0 : Int32)
  · refine own_by (fun t k => XS.ifNo X0.here hx rfl (hb hby own_d2_1) rfl ((if0 _ _).trans (teq hc1).2) k) ?_
    show own_Go p.tables e below K (s₁.setTop (mkF m 4 #[.val (.int q1), .val (.int q2)] []))
    refine own_by (fun t k => XS.iconst X0.here hx rfl (hb hby own_d2_4) k) ?_
    show own_Go p.tables e below K (s₁.setTop (mkF m 5 #[.val (.int q1), .val (.int q2)] [(.int (0 : Int32))]))
    exact own_retI X0 hx hret (hb hby own_d2_5) (hK (some (.int (0 : Int32))) X0 (fun h => by rw [hret] at h; cases h) (⟨by simp [own_pp, *], N0, e0⟩) (by decide) (by decide))
  · refine own_by (fun t k => XS.ifYes X0.here hx rfl (pc0 := 1) (pc' := 6) rfl (hb hby own_d2_1) rfl ((if0 _ _).trans (feq hc1).2) (by decide) (by decide) k) ?_
    show own_Go p.tables e below K (s₁.setTop (mkF m 6 #[.val (.int q1), .val (.int q2)] []))
    refine own_by (fun t k => XS.iloadN X0.here hx rfl (hb hby own_d2_6) rfl k) ?_
    show own_Go p.tables e below K (s₁.setTop (mkF m 7 #[.val (.int q1), .val (.int q2)] [(.int q1)]))
    refine own_by (fun t k => XS.iconst X0.here hx rfl (hb hby own_d2_7) k) ?_
    show own_Go p.tables e below K (s₁.setTop (mkF m 8 #[.val (.int q1), .val (.int q2)] [(.int (1 : Int32)), (.int q1)]))
    by_cases hc8 : q1 = (1 : Int32)
    · refine own_by (fun t k => XS.icmpNo X0.here hx rfl (hb hby own_d2_8) rfl (teq hc8).2 k) ?_
      show own_Go p.tables e below K (s₁.setTop (mkF m 11 #[.val (.int q1), .val (.int q2)] []))
      refine own_by (fun t k => XS.iconst X0.here hx rfl (hb hby own_d2_11) k) ?_
      show own_Go p.tables e below K (s₁.setTop (mkF m 12 #[.val (.int q1), .val (.int q2)] [(.int (1 : Int32))]))
      exact own_retI X0 hx hret (hb hby own_d2_12) (hK (some (.int (1 : Int32))) X0 (fun h => by rw [hret] at h; cases h) (⟨by simp [own_pp, *], N0, e0⟩) (by decide) (by decide))
    · refine own_by (fun t k => XS.icmpYes X0.here hx rfl (pc0 := 8) (pc' := 13) rfl (hb hby own_d2_8) rfl (feq hc8).2 (by decide) (by decide) k) ?_
      show own_Go p.tables e below K (s₁.setTop (mkF m 13 #[.val (.int q1), .val (.int q2)] []))
      refine own_by (fun t k => XS.iloadN X0.here hx rfl (hb hby own_d2_13) rfl k) ?_
      show own_Go p.tables e below K (s₁.setTop (mkF m 14 #[.val (.int q1), .val (.int q2)] [(.int q1)]))
      refine own_by (fun t k => XS.iconst X0.here hx rfl (hb hby own_d2_14) k) ?_
      show own_Go p.tables e below K (s₁.setTop (mkF m 15 #[.val (.int q1), .val (.int q2)] [(.int (2 : Int32)), (.int q1)]))
      by_cases hc15 : q1 = (2 : Int32)
      · refine own_by (fun t k => XS.icmpNo X0.here hx rfl (hb hby own_d2_15) rfl (teq hc15).2 k) ?_
        show own_Go p.tables e below K (s₁.setTop (mkF m 18 #[.val (.int q1), .val (.int q2)] []))
        refine own_by (fun t k => XS.bipush X0.here hx rfl (hb hby own_d2_18) k) ?_
        show own_Go p.tables e below K (s₁.setTop (mkF m 20 #[.val (.int q1), .val (.int q2)] [(.int (24 : Int32))]))
        exact own_retI X0 hx hret (hb hby own_d2_20) (hK (some (.int (24 : Int32))) X0 (fun h => by rw [hret] at h; cases h) (⟨by simp [own_pp, *], N0, e0⟩) (by decide) (by decide))
      · refine own_by (fun t k => XS.icmpYes X0.here hx rfl (pc0 := 15) (pc' := 21) rfl (hb hby own_d2_15) rfl (feq hc15).2 (by decide) (by decide) k) ?_
        show own_Go p.tables e below K (s₁.setTop (mkF m 21 #[.val (.int q1), .val (.int q2)] []))
        refine own_by (fun t k => XS.iloadN X0.here hx rfl (hb hby own_d2_21) rfl k) ?_
        show own_Go p.tables e below K (s₁.setTop (mkF m 22 #[.val (.int q1), .val (.int q2)] [(.int q1)]))
        refine own_by (fun t k => XS.iconst X0.here hx rfl (hb hby own_d2_22) k) ?_
        show own_Go p.tables e below K (s₁.setTop (mkF m 23 #[.val (.int q1), .val (.int q2)] [(.int (3 : Int32)), (.int q1)]))
        by_cases hc23 : q1 = (3 : Int32)
        · refine own_by (fun t k => XS.icmpNo X0.here hx rfl (hb hby own_d2_23) rfl (teq hc23).2 k) ?_
          show own_Go p.tables e below K (s₁.setTop (mkF m 26 #[.val (.int q1), .val (.int q2)] []))
          refine own_by (fun t k => XS.bipush X0.here hx rfl (hb hby own_d2_26) k) ?_
          show own_Go p.tables e below K (s₁.setTop (mkF m 28 #[.val (.int q1), .val (.int q2)] [(.int (25 : Int32))]))
          exact own_retI X0 hx hret (hb hby own_d2_28) (hK (some (.int (25 : Int32))) X0 (fun h => by rw [hret] at h; cases h) (⟨by simp [own_pp, *], N0, e0⟩) (by decide) (by decide))
        · refine own_by (fun t k => XS.icmpYes X0.here hx rfl (pc0 := 23) (pc' := 29) rfl (hb hby own_d2_23) rfl (feq hc23).2 (by decide) (by decide) k) ?_
          show own_Go p.tables e below K (s₁.setTop (mkF m 29 #[.val (.int q1), .val (.int q2)] []))
          refine own_by (fun t k => XS.iloadN X0.here hx rfl (hb hby own_d2_29) rfl k) ?_
          show own_Go p.tables e below K (s₁.setTop (mkF m 30 #[.val (.int q1), .val (.int q2)] [(.int q1)]))
          refine own_by (fun t k => XS.iconst X0.here hx rfl (hb hby own_d2_30) k) ?_
          show own_Go p.tables e below K (s₁.setTop (mkF m 31 #[.val (.int q1), .val (.int q2)] [(.int (4 : Int32)), (.int q1)]))
          by_cases hc31 : q1 = (4 : Int32)
          · refine own_by (fun t k => XS.icmpNo X0.here hx rfl (hb hby own_d2_31) rfl (teq hc31).2 k) ?_
            show own_Go p.tables e below K (s₁.setTop (mkF m 34 #[.val (.int q1), .val (.int q2)] []))
            refine own_by (fun t k => XS.iconst X0.here hx rfl (hb hby own_d2_34) k) ?_
            show own_Go p.tables e below K (s₁.setTop (mkF m 35 #[.val (.int q1), .val (.int q2)] [(.int (-1 : Int32))]))
            exact own_retI X0 hx hret (hb hby own_d2_35) (hK (some (.int (-1 : Int32))) X0 (fun h => by rw [hret] at h; cases h) (⟨by simp [own_pp, *], N0, e0⟩) (by decide) (by decide))
          · refine own_by (fun t k => XS.icmpYes X0.here hx rfl (pc0 := 31) (pc' := 36) rfl (hb hby own_d2_31) rfl (feq hc31).2 (by decide) (by decide) k) ?_
            show own_Go p.tables e below K (s₁.setTop (mkF m 36 #[.val (.int q1), .val (.int q2)] []))
            refine own_by (fun t k => XS.iloadN X0.here hx rfl (hb hby own_d2_36) rfl k) ?_
            show own_Go p.tables e below K (s₁.setTop (mkF m 37 #[.val (.int q1), .val (.int q2)] [(.int q1)]))
            refine own_by (fun t k => XS.iconst X0.here hx rfl (hb hby own_d2_37) k) ?_
            show own_Go p.tables e below K (s₁.setTop (mkF m 38 #[.val (.int q1), .val (.int q2)] [(.int (5 : Int32)), (.int q1)]))
            by_cases hc38 : q1 = (5 : Int32)
            · refine own_by (fun t k => XS.icmpNo X0.here hx rfl (hb hby own_d2_38) rfl (teq hc38).2 k) ?_
              show own_Go p.tables e below K (s₁.setTop (mkF m 41 #[.val (.int q1), .val (.int q2)] []))
              refine own_by (fun t k => X0.ldcInt hx hown (mvT hZ (hw _ (List.mem_of_getElem? (i := 48) rfl))) (g := (mkF m 41 #[.val (.int q1), .val (.int q2)] [])) rfl (hb hby own_d2_41) _ k) ?_
              show own_Go p.tables e below K (s₁.setTop (mkF m 43 #[.val (.int q1), .val (.int q2)] [(.int (-2147483648 : Int32))]))
              exact own_retI X0 hx hret (hb hby own_d2_43) (hK (some (.int (-2147483648 : Int32))) X0 (fun h => by rw [hret] at h; cases h) (⟨by simp [own_pp, *], N0, e0⟩) (by decide) (by decide))
            · refine own_by (fun t k => XS.icmpYes X0.here hx rfl (pc0 := 38) (pc' := 44) rfl (hb hby own_d2_38) rfl (feq hc38).2 (by decide) (by decide) k) ?_
              show own_Go p.tables e below K (s₁.setTop (mkF m 44 #[.val (.int q1), .val (.int q2)] []))
              refine own_by (fun t k => XS.iloadN X0.here hx rfl (hb hby own_d2_44) rfl k) ?_
              show own_Go p.tables e below K (s₁.setTop (mkF m 45 #[.val (.int q1), .val (.int q2)] [(.int q1)]))
              refine own_by (fun t k => XS.bipush X0.here hx rfl (hb hby own_d2_45) k) ?_
              show own_Go p.tables e below K (s₁.setTop (mkF m 47 #[.val (.int q1), .val (.int q2)] [(.int (6 : Int32)), (.int q1)]))
              by_cases hc47 : q1 = (6 : Int32)
              · refine own_by (fun t k => XS.icmpNo X0.here hx rfl (hb hby own_d2_47) rfl (teq hc47).2 k) ?_
                show own_Go p.tables e below K (s₁.setTop (mkF m 50 #[.val (.int q1), .val (.int q2)] []))
                refine own_by (fun t k => X0.ldcInt hx hown (mvT hZ (hw _ (List.mem_of_getElem? (i := 49) rfl))) (g := (mkF m 50 #[.val (.int q1), .val (.int q2)] [])) rfl (hb hby own_d2_50) _ k) ?_
                show own_Go p.tables e below K (s₁.setTop (mkF m 52 #[.val (.int q1), .val (.int q2)] [(.int (2147483647 : Int32))]))
                exact own_retI X0 hx hret (hb hby own_d2_52) (hK (some (.int (2147483647 : Int32))) X0 (fun h => by rw [hret] at h; cases h) (⟨by simp [own_pp, *], N0, e0⟩) (by decide) (by decide))
              · refine own_by (fun t k => XS.icmpYes X0.here hx rfl (pc0 := 47) (pc' := 53) rfl (hb hby own_d2_47) rfl (feq hc47).2 (by decide) (by decide) k) ?_
                show own_Go p.tables e below K (s₁.setTop (mkF m 53 #[.val (.int q1), .val (.int q2)] []))
                refine own_by (fun t k => XS.iloadN X0.here hx rfl (hb hby own_d2_53) rfl k) ?_
                show own_Go p.tables e below K (s₁.setTop (mkF m 54 #[.val (.int q1), .val (.int q2)] [(.int q2)]))
                exact own_retI X0 hx hret (hb hby own_d2_54) (hK (some (.int q2)) X0 (fun h => by rw [hret] at h; cases h) (⟨by simp [own_pp, *], N0, e0⟩) (by decide) (by decide))
theorem own_pn4 : plainName "java/lang/Record" = true := by first | (simp [plainName, overriddenIn]; done) | decide +kernel
theorem own_d4_0 : decode jdk_30_method_1_code 0 = .ok (.aload_n 0, 1) := by decide +kernel
theorem own_d4_1 : decode jdk_30_method_1_code 1 = .ok (.invokespecial 1, 3) := by decide +kernel
theorem own_d4_4 : decode jdk_30_method_1_code 4 = .ok (.return_, 1) := by decide +kernel
theorem own_efR (m : MethodId) (a1 : Addr) : entryFrame m #[(.ref a1)] 1 = mkF m 0 #[.val (.ref a1)] [] := by first | (simp [entryFrame, mkF, argsToLocals, Value.category]; done) | rfl
def own_QR (Z : State) (a1 : Addr) (h0 : Heap) (n0 : Nat) (v : Option Value) (h : Heap) (L : List Loc) : Prop := v = none ∧ Fr n0 L ∧ h = h0
set_option maxRecDepth 65536 in
set_option maxHeartbeats 40000000 in
theorem own_rmR (l : Launch) (Z : State) (aw : Array Value) (hw : ∀ d ∈ tables_1, d.before aw Z = true) (ws : List Jvm.Cond) (a1 : Addr) (h0 : Heap) (n0 : Nat) (Z0 : n0 ≤ h0.size)  :
    MetFree l (⟨"java/lang/Record", "<init>", "()V"⟩ : MethodName) (head1 (Jvm.Cond.code (⟨"java/lang/Record", "<init>", "()V"⟩ : MethodName) jdk_30_method_1_code 1 none :: ws) ({ frames := 1, cells := 0, slots := 0, locals := 12 } : Room)) (fun a U => a = #[(.ref a1)] ∧ Z.Warmed39 U.vm ∧ U.heap = h0) (fun _ _ _ _ _ => True) (fun _ U o U' => ∃ v L, o = .returned v ∧ own_QR Z a1 h0 n0 v U'.heap L ∧ FrameEnd U o U' L ({ frames := 1, cells := 0, slots := 0, locals := 12 } : Room).cells ({ frames := 1, cells := 0, slots := 0, locals := 12 } : Room).slots) := by
  refine own_met (Q := own_QR Z a1 h0 n0) (plainFor_of_name own_pn4) ?_
  intro p e s m below meth c s₁ K hx hby hml hown hnm hret hZ X0 e0 hK
  have hown : s.vm.findClass "java/lang/Record" = some m.cls := hown
  have hnm : meth.name = "<init>" := hnm
  have N0 := Fr.nil n0
  refine own_by (fun t k => castTop (own_efR m a1) k) ?_
  show own_Go p.tables e below K (s₁.setTop (mkF m 0 #[.val (.ref a1)] []))
  refine own_by (fun t k => XS.aloadN X0.here hx rfl (hb hby own_d4_0) rfl rfl k) ?_
  show own_Go p.tables e below K (s₁.setTop (mkF m 1 #[.val (.ref a1)] [(.ref a1)]))
  obtain ⟨T1, X1, e1, st1⟩ := initO X0 hx hZ hown (hw _ (List.mem_of_getElem? (i := 18) rfl)) (hw _ (List.mem_of_getElem? (i := 19) rfl)) (hw _ (List.mem_of_getElem? (i := 20) rfl)) e0 (g := (mkF m 1 #[.val (.ref a1)] [(.ref a1)])) rfl (by rw [hml]; rfl) rfl (hb hby own_d4_1) (by decide) (W := 0) (by show 2 * 0 + _ ≤ _; exact Nat.le_of_eq rfl) (by decide)
  refine own_by st1 ?_
  show own_Go p.tables e below K (T1.setTop (mkF m 4 #[.val (.ref a1)] []))
  exact own_retV X1 hx hret (hb hby own_d4_4) (hK none X1 (fun _ => rfl) (⟨rfl, N0, e1⟩) (by decide) (by decide))
theorem own_pd0 : parseMethodDescriptor "()V" = some ⟨[], none⟩ := by decide +kernel
theorem own_pn3 : plainName "com/example/deliberate_session/deliberatesession/mapping/ColumnDescription" = true := by first | (simp [plainName, overriddenIn]; done) | decide +kernel
theorem own_d3_0 : decode prog_43_method_1_code 0 = .ok (.aload_n 0, 1) := by decide +kernel
theorem own_d3_1 : decode prog_43_method_1_code 1 = .ok (.invokespecial 1, 3) := by decide +kernel
theorem own_d3_4 : decode prog_43_method_1_code 4 = .ok (.aload_n 0, 1) := by decide +kernel
theorem own_d3_5 : decode prog_43_method_1_code 5 = .ok (.iload_n 1, 1) := by decide +kernel
theorem own_d3_6 : decode prog_43_method_1_code 6 = .ok (.putfield 7, 3) := by decide +kernel
theorem own_d3_9 : decode prog_43_method_1_code 9 = .ok (.aload_n 0, 1) := by decide +kernel
theorem own_d3_10 : decode prog_43_method_1_code 10 = .ok (.aload_n 2, 1) := by decide +kernel
theorem own_d3_11 : decode prog_43_method_1_code 11 = .ok (.putfield 13, 3) := by decide +kernel
theorem own_d3_14 : decode prog_43_method_1_code 14 = .ok (.aload_n 0, 1) := by decide +kernel
theorem own_d3_15 : decode prog_43_method_1_code 15 = .ok (.iload_n 3, 1) := by decide +kernel
theorem own_d3_16 : decode prog_43_method_1_code 16 = .ok (.putfield 17, 3) := by decide +kernel
theorem own_d3_19 : decode prog_43_method_1_code 19 = .ok (.aload_n 0, 1) := by decide +kernel
theorem own_d3_20 : decode prog_43_method_1_code 20 = .ok (.iload 4, 2) := by decide +kernel
theorem own_d3_22 : decode prog_43_method_1_code 22 = .ok (.putfield 20, 3) := by decide +kernel
theorem own_d3_25 : decode prog_43_method_1_code 25 = .ok (.aload_n 0, 1) := by decide +kernel
theorem own_d3_26 : decode prog_43_method_1_code 26 = .ok (.iload 5, 2) := by decide +kernel
theorem own_d3_28 : decode prog_43_method_1_code 28 = .ok (.putfield 23, 3) := by decide +kernel
theorem own_d3_31 : decode prog_43_method_1_code 31 = .ok (.return_, 1) := by decide +kernel
theorem own_efI (m : MethodId) (a1 : Addr) (q1 : Int32) (q2 : Int32) (q3 : Int32) (q4 : Int32) : entryFrame m #[(.ref a1), (.int q1), .null, (.int q2), (.int q3), (.int q4)] 6 = mkF m 0 #[.val (.ref a1), .val (.int q1), .val .null, .val (.int q2), .val (.int q3), .val (.int q4)] [] := by first | (simp [entryFrame, mkF, argsToLocals, Value.category]; done) | rfl
def own_QI (Z : State) (a1 : Addr) (q1 : Int32) (q2 : Int32) (q3 : Int32) (q4 : Int32) (h0 : Heap) (n0 : Nat) (v : Option Value) (h : Heap) (L : List Loc) : Prop := v = none ∧ Fr n0 L ∧ Keep h0 h [a1] ∧ own_CD Z h a1 q1 q2 q4
set_option maxRecDepth 65536 in
set_option maxHeartbeats 40000000 in
theorem own_rmI (l : Launch) (Z : State) (aw : Array Value) (hw : ∀ d ∈ tables_1, d.before aw Z = true) (ws : List Jvm.Cond) (a1 : Addr) (q1 : Int32) (q2 : Int32) (q3 : Int32) (q4 : Int32) (h0 : Heap) (n0 : Nat) (Z0 : n0 ≤ h0.size) (E0 : Exa Z h0 a1 "com/example/deliberate_session/deliberatesession/mapping/ColumnDescription") (ga : n0 ≤ a1) (F0_sqlType : Fld Z h0 a1 "com/example/deliberate_session/deliberatesession/mapping/ColumnDescription" "sqlType" "I" (.int (0 : Int32))) (F0_typeName : Fld Z h0 a1 "com/example/deliberate_session/deliberatesession/mapping/ColumnDescription" "typeName" "Ljava/lang/String;" .null) (F0_precision : Fld Z h0 a1 "com/example/deliberate_session/deliberatesession/mapping/ColumnDescription" "precision" "I" (.int (0 : Int32))) (F0_scale : Fld Z h0 a1 "com/example/deliberate_session/deliberatesession/mapping/ColumnDescription" "scale" "I" (.int (0 : Int32))) (F0_singlePrecisionDigits : Fld Z h0 a1 "com/example/deliberate_session/deliberatesession/mapping/ColumnDescription" "singlePrecisionDigits" "I" (.int (0 : Int32))) :
    MetFree l (⟨"com/example/deliberate_session/deliberatesession/mapping/ColumnDescription", "<init>", "(ILjava/lang/String;III)V"⟩ : MethodName) (head1 (Jvm.Cond.code (⟨"com/example/deliberate_session/deliberatesession/mapping/ColumnDescription", "<init>", "(ILjava/lang/String;III)V"⟩ : MethodName) prog_43_method_1_code 6 none :: ws) ({ frames := 2, cells := 0, slots := 0, locals := 24 } : Room)) (fun a U => a = #[(.ref a1), (.int q1), .null, (.int q2), (.int q3), (.int q4)] ∧ Z.Warmed39 U.vm ∧ U.heap = h0) (fun _ _ _ _ _ => True) (fun _ U o U' => ∃ v L, o = .returned v ∧ own_QI Z a1 q1 q2 q3 q4 h0 n0 v U'.heap L ∧ FrameEnd U o U' L ({ frames := 2, cells := 0, slots := 0, locals := 24 } : Room).cells ({ frames := 2, cells := 0, slots := 0, locals := 24 } : Room).slots) := by
  refine own_met (Q := own_QI Z a1 q1 q2 q3 q4 h0 n0) (plainFor_of_name own_pn3) ?_
  intro p e s m below meth c s₁ K hx hby hml hown hnm hret hZ X0 e0 hK
  have hown : s.vm.findClass "com/example/deliberate_session/deliberatesession/mapping/ColumnDescription" = some m.cls := hown
  have hnm : meth.name = "<init>" := hnm
  have N0 := Fr.nil n0
  refine own_by (fun t k => castTop (own_efI m a1 q1 q2 q3 q4) k) ?_
  show own_Go p.tables e below K (s₁.setTop (mkF m 0 #[.val (.ref a1), .val (.int q1), .val .null, .val (.int q2), .val (.int q3), .val (.int q4)] []))
  refine own_by (fun t k => XS.aloadN X0.here hx rfl (hb hby own_d3_0) rfl rfl k) ?_
  show own_Go p.tables e below K (s₁.setTop (mkF m 1 #[.val (.ref a1), .val (.int q1), .val .null, .val (.int q2), .val (.int q3), .val (.int q4)] [(.ref a1)]))
  obtain ⟨_, _, ⟨T2, L2, k2, n2⟩, -, X2, ⟨Lc2, hQ2, l2, y2, z2⟩, st2⟩ := X0.specialBack hx (y := (⟨"java/lang/Record", "<init>", "()V"⟩ : MethodName)) rfl hown (mvT hZ (hw _ (List.mem_of_getElem? (i := 13) rfl))) (mvT hZ (hw _ (List.mem_of_getElem? (i := 14) rfl))) (mvT hZ (hw _ (List.mem_of_getElem? (i := 17) rfl))) (by decide) (backOf (W := 0) (own_rmR l Z aw hw [] a1 h0 n0 Z0) hZ (hw _ (List.mem_of_getElem? (i := 17) rfl)) (hw _ (List.mem_of_getElem? (i := 16) rfl)) (by decide) (by decide)) (g := (mkF m 1 #[.val (.ref a1), .val (.int q1), .val .null, .val (.int q2), .val (.int q3), .val (.int q4)] [(.ref a1)])) rfl (by rw [hml]; rfl) (Steps.refl _) (a := a1) (argsL := []) (rest := []) (lenOf own_pd0 rfl) rfl (by show 2 * 0 + _ ≤ _; exact Nat.le_of_eq rfl) (hb hby own_d3_1) (fun _ _ => ⟨rfl, e0, (by decide : 0 + 0 ≤ _), (by decide : 0 + 0 ≤ _)⟩)
  dsimp only [Pt.U, Pt.locs, Pt.cells, Pt.slots] at X2 l2 y2 z2 st2 hQ2
  subst l2 y2 z2
  obtain ⟨rfl, N2q, e2⟩ := hQ2
  have N2 := Fr.app N0 N2q
  refine own_by (fun t k => st2.trans k) ?_
  show own_Go p.tables e below K (T2.setTop (mkF m 4 #[.val (.ref a1), .val (.int q1), .val .null, .val (.int q2), .val (.int q3), .val (.int q4)] []))
  refine own_by (fun t k => XS.aloadN X2.here hx rfl (hb hby own_d3_4) rfl rfl k) ?_
  show own_Go p.tables e below K (T2.setTop (mkF m 5 #[.val (.ref a1), .val (.int q1), .val .null, .val (.int q2), .val (.int q3), .val (.int q4)] [(.ref a1)]))
  refine own_by (fun t k => XS.iloadN X2.here hx rfl (hb hby own_d3_5) rfl k) ?_
  show own_Go p.tables e below K (T2.setTop (mkF m 6 #[.val (.ref a1), .val (.int q1), .val .null, .val (.int q2), .val (.int q3), .val (.int q4)] [(.int q1), (.ref a1)]))
  obtain ⟨T3, h3, X3, e3, W3, st3⟩ := putF X2 hx hZ hown (host := "") (Or.inl (hw _ (List.mem_of_getElem? (i := 21) rfl))) Via.refl e2 F0_sqlType E0 (Or.inr ⟨(hw _ (List.mem_of_getElem? (i := 22) rfl)), rfl, hnm⟩) (hw _ (List.mem_of_getElem? (i := 8) rfl)) (ty := .int) (by decide) rfl rfl (g := (mkF m 6 #[.val (.ref a1), .val (.int q1), .val .null, .val (.int q2), .val (.int q3), .val (.int q4)] [(.int q1), (.ref a1)])) rfl rfl (hb hby own_d3_6)
  refine own_by st3 ?_
  have F3_sqlType_a1 := F0_sqlType.same W3
  have F3_typeName_a1 := F0_typeName.other W3 (Or.inr (slot_ne (Or.inr (hw _ (List.mem_of_getElem? (i := 24) rfl))) (Or.inr (hw _ (List.mem_of_getElem? (i := 22) rfl))) (by decide) (t := (.object "java/lang/String")) (t' := .int) (by decide) (by decide)))
  have F3_precision_a1 := F0_precision.other W3 (Or.inr (slot_ne (Or.inr (hw _ (List.mem_of_getElem? (i := 26) rfl))) (Or.inr (hw _ (List.mem_of_getElem? (i := 22) rfl))) (by decide) (t := .int) (t' := .int) (by decide) (by decide)))
  have F3_scale_a1 := F0_scale.other W3 (Or.inr (slot_ne (Or.inr (hw _ (List.mem_of_getElem? (i := 28) rfl))) (Or.inr (hw _ (List.mem_of_getElem? (i := 22) rfl))) (by decide) (t := .int) (t' := .int) (by decide) (by decide)))
  have F3_singlePrecisionDigits_a1 := F0_singlePrecisionDigits.other W3 (Or.inr (slot_ne (Or.inr (hw _ (List.mem_of_getElem? (i := 30) rfl))) (Or.inr (hw _ (List.mem_of_getElem? (i := 22) rfl))) (by decide) (t := .int) (t' := .int) (by decide) (by decide)))
  have Ex3_a1 := E0.wr W3
  have K3 := (Keep.refl h0 [a1]).wr W3 (Or.inl (by simp))
  have Z3 := Nat.le_trans Z0 (Keep.of_wr W3).1
  have N3 := Fr.snoc X3 N2 ga
  show own_Go p.tables e below K (T3.setTop (mkF m 9 #[.val (.ref a1), .val (.int q1), .val .null, .val (.int q2), .val (.int q3), .val (.int q4)] []))
  refine own_by (fun t k => XS.aloadN X3.here hx rfl (hb hby own_d3_9) rfl rfl k) ?_
  show own_Go p.tables e below K (T3.setTop (mkF m 10 #[.val (.ref a1), .val (.int q1), .val .null, .val (.int q2), .val (.int q3), .val (.int q4)] [(.ref a1)]))
  refine own_by (fun t k => XS.aloadN X3.here hx rfl (hb hby own_d3_10) rfl rfl k) ?_
  show own_Go p.tables e below K (T3.setTop (mkF m 11 #[.val (.ref a1), .val (.int q1), .val .null, .val (.int q2), .val (.int q3), .val (.int q4)] [.null, (.ref a1)]))
  obtain ⟨T4, h4, X4, e4, W4, st4⟩ := putF X3 hx hZ hown (host := "") (Or.inl (hw _ (List.mem_of_getElem? (i := 23) rfl))) Via.refl e3 F3_typeName_a1 Ex3_a1 (Or.inr ⟨(hw _ (List.mem_of_getElem? (i := 24) rfl)), rfl, hnm⟩) (hw _ (List.mem_of_getElem? (i := 8) rfl)) (ty := (.object "java/lang/String")) (by decide) rfl rfl (g := (mkF m 11 #[.val (.ref a1), .val (.int q1), .val .null, .val (.int q2), .val (.int q3), .val (.int q4)] [.null, (.ref a1)])) rfl rfl (hb hby own_d3_11)
  refine own_by st4 ?_
  have F4_sqlType_a1 := F3_sqlType_a1.other W4 (Or.inr (slot_ne (Or.inr (hw _ (List.mem_of_getElem? (i := 22) rfl))) (Or.inr (hw _ (List.mem_of_getElem? (i := 24) rfl))) (by decide) (t := .int) (t' := (.object "java/lang/String")) (by decide) (by decide)))
  have F4_typeName_a1 := F3_typeName_a1.same W4
  have F4_precision_a1 := F3_precision_a1.other W4 (Or.inr (slot_ne (Or.inr (hw _ (List.mem_of_getElem? (i := 26) rfl))) (Or.inr (hw _ (List.mem_of_getElem? (i := 24) rfl))) (by decide) (t := .int) (t' := (.object "java/lang/String")) (by decide) (by decide)))
  have F4_scale_a1 := F3_scale_a1.other W4 (Or.inr (slot_ne (Or.inr (hw _ (List.mem_of_getElem? (i := 28) rfl))) (Or.inr (hw _ (List.mem_of_getElem? (i := 24) rfl))) (by decide) (t := .int) (t' := (.object "java/lang/String")) (by decide) (by decide)))
  have F4_singlePrecisionDigits_a1 := F3_singlePrecisionDigits_a1.other W4 (Or.inr (slot_ne (Or.inr (hw _ (List.mem_of_getElem? (i := 30) rfl))) (Or.inr (hw _ (List.mem_of_getElem? (i := 24) rfl))) (by decide) (t := .int) (t' := (.object "java/lang/String")) (by decide) (by decide)))
  have Ex4_a1 := Ex3_a1.wr W4
  have K4 := K3.wr W4 (Or.inl (by simp))
  have Z4 := Nat.le_trans Z3 (Keep.of_wr W4).1
  have N4 := Fr.snoc X4 N3 ga
  show own_Go p.tables e below K (T4.setTop (mkF m 14 #[.val (.ref a1), .val (.int q1), .val .null, .val (.int q2), .val (.int q3), .val (.int q4)] []))
  refine own_by (fun t k => XS.aloadN X4.here hx rfl (hb hby own_d3_14) rfl rfl k) ?_
  show own_Go p.tables e below K (T4.setTop (mkF m 15 #[.val (.ref a1), .val (.int q1), .val .null, .val (.int q2), .val (.int q3), .val (.int q4)] [(.ref a1)]))
  refine own_by (fun t k => XS.iloadN X4.here hx rfl (hb hby own_d3_15) rfl k) ?_
  show own_Go p.tables e below K (T4.setTop (mkF m 16 #[.val (.ref a1), .val (.int q1), .val .null, .val (.int q2), .val (.int q3), .val (.int q4)] [(.int q2), (.ref a1)]))
  obtain ⟨T5, h5, X5, e5, W5, st5⟩ := putF X4 hx hZ hown (host := "") (Or.inl (hw _ (List.mem_of_getElem? (i := 25) rfl))) Via.refl e4 F4_precision_a1 Ex4_a1 (Or.inr ⟨(hw _ (List.mem_of_getElem? (i := 26) rfl)), rfl, hnm⟩) (hw _ (List.mem_of_getElem? (i := 8) rfl)) (ty := .int) (by decide) rfl rfl (g := (mkF m 16 #[.val (.ref a1), .val (.int q1), .val .null, .val (.int q2), .val (.int q3), .val (.int q4)] [(.int q2), (.ref a1)])) rfl rfl (hb hby own_d3_16)
  refine own_by st5 ?_
  have F5_sqlType_a1 := F4_sqlType_a1.other W5 (Or.inr (slot_ne (Or.inr (hw _ (List.mem_of_getElem? (i := 22) rfl))) (Or.inr (hw _ (List.mem_of_getElem? (i := 26) rfl))) (by decide) (t := .int) (t' := .int) (by decide) (by decide)))
  have F5_typeName_a1 := F4_typeName_a1.other W5 (Or.inr (slot_ne (Or.inr (hw _ (List.mem_of_getElem? (i := 24) rfl))) (Or.inr (hw _ (List.mem_of_getElem? (i := 26) rfl))) (by decide) (t := (.object "java/lang/String")) (t' := .int) (by decide) (by decide)))
  have F5_precision_a1 := F4_precision_a1.same W5
  have F5_scale_a1 := F4_scale_a1.other W5 (Or.inr (slot_ne (Or.inr (hw _ (List.mem_of_getElem? (i := 28) rfl))) (Or.inr (hw _ (List.mem_of_getElem? (i := 26) rfl))) (by decide) (t := .int) (t' := .int) (by decide) (by decide)))
  have F5_singlePrecisionDigits_a1 := F4_singlePrecisionDigits_a1.other W5 (Or.inr (slot_ne (Or.inr (hw _ (List.mem_of_getElem? (i := 30) rfl))) (Or.inr (hw _ (List.mem_of_getElem? (i := 26) rfl))) (by decide) (t := .int) (t' := .int) (by decide) (by decide)))
  have Ex5_a1 := Ex4_a1.wr W5
  have K5 := K4.wr W5 (Or.inl (by simp))
  have Z5 := Nat.le_trans Z4 (Keep.of_wr W5).1
  have N5 := Fr.snoc X5 N4 ga
  show own_Go p.tables e below K (T5.setTop (mkF m 19 #[.val (.ref a1), .val (.int q1), .val .null, .val (.int q2), .val (.int q3), .val (.int q4)] []))
  refine own_by (fun t k => XS.aloadN X5.here hx rfl (hb hby own_d3_19) rfl rfl k) ?_
  show own_Go p.tables e below K (T5.setTop (mkF m 20 #[.val (.ref a1), .val (.int q1), .val .null, .val (.int q2), .val (.int q3), .val (.int q4)] [(.ref a1)]))
  refine own_by (fun t k => XS.iload X5.here hx rfl (hb hby own_d3_20) rfl k) ?_
  show own_Go p.tables e below K (T5.setTop (mkF m 22 #[.val (.ref a1), .val (.int q1), .val .null, .val (.int q2), .val (.int q3), .val (.int q4)] [(.int q3), (.ref a1)]))
  obtain ⟨T6, h6, X6, e6, W6, st6⟩ := putF X5 hx hZ hown (host := "") (Or.inl (hw _ (List.mem_of_getElem? (i := 27) rfl))) Via.refl e5 F5_scale_a1 Ex5_a1 (Or.inr ⟨(hw _ (List.mem_of_getElem? (i := 28) rfl)), rfl, hnm⟩) (hw _ (List.mem_of_getElem? (i := 8) rfl)) (ty := .int) (by decide) rfl rfl (g := (mkF m 22 #[.val (.ref a1), .val (.int q1), .val .null, .val (.int q2), .val (.int q3), .val (.int q4)] [(.int q3), (.ref a1)])) rfl rfl (hb hby own_d3_22)
  refine own_by st6 ?_
  have F6_sqlType_a1 := F5_sqlType_a1.other W6 (Or.inr (slot_ne (Or.inr (hw _ (List.mem_of_getElem? (i := 22) rfl))) (Or.inr (hw _ (List.mem_of_getElem? (i := 28) rfl))) (by decide) (t := .int) (t' := .int) (by decide) (by decide)))
  have F6_typeName_a1 := F5_typeName_a1.other W6 (Or.inr (slot_ne (Or.inr (hw _ (List.mem_of_getElem? (i := 24) rfl))) (Or.inr (hw _ (List.mem_of_getElem? (i := 28) rfl))) (by decide) (t := (.object "java/lang/String")) (t' := .int) (by decide) (by decide)))
  have F6_precision_a1 := F5_precision_a1.other W6 (Or.inr (slot_ne (Or.inr (hw _ (List.mem_of_getElem? (i := 26) rfl))) (Or.inr (hw _ (List.mem_of_getElem? (i := 28) rfl))) (by decide) (t := .int) (t' := .int) (by decide) (by decide)))
  have F6_scale_a1 := F5_scale_a1.same W6
  have F6_singlePrecisionDigits_a1 := F5_singlePrecisionDigits_a1.other W6 (Or.inr (slot_ne (Or.inr (hw _ (List.mem_of_getElem? (i := 30) rfl))) (Or.inr (hw _ (List.mem_of_getElem? (i := 28) rfl))) (by decide) (t := .int) (t' := .int) (by decide) (by decide)))
  have Ex6_a1 := Ex5_a1.wr W6
  have K6 := K5.wr W6 (Or.inl (by simp))
  have Z6 := Nat.le_trans Z5 (Keep.of_wr W6).1
  have N6 := Fr.snoc X6 N5 ga
  show own_Go p.tables e below K (T6.setTop (mkF m 25 #[.val (.ref a1), .val (.int q1), .val .null, .val (.int q2), .val (.int q3), .val (.int q4)] []))
  refine own_by (fun t k => XS.aloadN X6.here hx rfl (hb hby own_d3_25) rfl rfl k) ?_
  show own_Go p.tables e below K (T6.setTop (mkF m 26 #[.val (.ref a1), .val (.int q1), .val .null, .val (.int q2), .val (.int q3), .val (.int q4)] [(.ref a1)]))
  refine own_by (fun t k => XS.iload X6.here hx rfl (hb hby own_d3_26) rfl k) ?_
  show own_Go p.tables e below K (T6.setTop (mkF m 28 #[.val (.ref a1), .val (.int q1), .val .null, .val (.int q2), .val (.int q3), .val (.int q4)] [(.int q4), (.ref a1)]))
  obtain ⟨T7, h7, X7, e7, W7, st7⟩ := putF X6 hx hZ hown (host := "") (Or.inl (hw _ (List.mem_of_getElem? (i := 29) rfl))) Via.refl e6 F6_singlePrecisionDigits_a1 Ex6_a1 (Or.inr ⟨(hw _ (List.mem_of_getElem? (i := 30) rfl)), rfl, hnm⟩) (hw _ (List.mem_of_getElem? (i := 8) rfl)) (ty := .int) (by decide) rfl rfl (g := (mkF m 28 #[.val (.ref a1), .val (.int q1), .val .null, .val (.int q2), .val (.int q3), .val (.int q4)] [(.int q4), (.ref a1)])) rfl rfl (hb hby own_d3_28)
  refine own_by st7 ?_
  have F7_sqlType_a1 := F6_sqlType_a1.other W7 (Or.inr (slot_ne (Or.inr (hw _ (List.mem_of_getElem? (i := 22) rfl))) (Or.inr (hw _ (List.mem_of_getElem? (i := 30) rfl))) (by decide) (t := .int) (t' := .int) (by decide) (by decide)))
  have F7_typeName_a1 := F6_typeName_a1.other W7 (Or.inr (slot_ne (Or.inr (hw _ (List.mem_of_getElem? (i := 24) rfl))) (Or.inr (hw _ (List.mem_of_getElem? (i := 30) rfl))) (by decide) (t := (.object "java/lang/String")) (t' := .int) (by decide) (by decide)))
  have F7_precision_a1 := F6_precision_a1.other W7 (Or.inr (slot_ne (Or.inr (hw _ (List.mem_of_getElem? (i := 26) rfl))) (Or.inr (hw _ (List.mem_of_getElem? (i := 30) rfl))) (by decide) (t := .int) (t' := .int) (by decide) (by decide)))
  have F7_scale_a1 := F6_scale_a1.other W7 (Or.inr (slot_ne (Or.inr (hw _ (List.mem_of_getElem? (i := 28) rfl))) (Or.inr (hw _ (List.mem_of_getElem? (i := 30) rfl))) (by decide) (t := .int) (t' := .int) (by decide) (by decide)))
  have F7_singlePrecisionDigits_a1 := F6_singlePrecisionDigits_a1.same W7
  have Ex7_a1 := Ex6_a1.wr W7
  have K7 := K6.wr W7 (Or.inl (by simp))
  have Z7 := Nat.le_trans Z6 (Keep.of_wr W7).1
  have N7 := Fr.snoc X7 N6 ga
  show own_Go p.tables e below K (T7.setTop (mkF m 31 #[.val (.ref a1), .val (.int q1), .val .null, .val (.int q2), .val (.int q3), .val (.int q4)] []))
  exact own_retV X7 hx hret (hb hby own_d3_31) (hK none X7 (fun _ => rfl) (by rw [e7]; exact ⟨rfl, N7, K7, Ex7_a1, F7_sqlType_a1, F7_precision_a1, F7_singlePrecisionDigits_a1⟩) (by decide) (by decide))
theorem own_d6_0 : decode prog_43_method_6_code 0 = .ok (.aload_n 0, 1) := by decide +kernel
theorem own_d6_1 : decode prog_43_method_6_code 1 = .ok (.getfield 7, 3) := by decide +kernel
theorem own_d6_4 : decode prog_43_method_6_code 4 = .ok (.bipush 7, 2) := by decide +kernel
theorem own_d6_6 : decode prog_43_method_6_code 6 = .ok (.if_icmp .eq 28, 3) := by decide +kernel
theorem own_d6_9 : decode prog_43_method_6_code 9 = .ok (.aload_n 0, 1) := by decide +kernel
theorem own_d6_10 : decode prog_43_method_6_code 10 = .ok (.getfield 7, 3) := by decide +kernel
theorem own_d6_13 : decode prog_43_method_6_code 13 = .ok (.bipush 6, 2) := by decide +kernel
theorem own_d6_15 : decode prog_43_method_6_code 15 = .ok (.if_icmp .ne 23, 3) := by decide +kernel
theorem own_d6_18 : decode prog_43_method_6_code 18 = .ok (.aload_n 0, 1) := by decide +kernel
theorem own_d6_19 : decode prog_43_method_6_code 19 = .ok (.getfield 17, 3) := by decide +kernel
theorem own_d6_22 : decode prog_43_method_6_code 22 = .ok (.ifCond .le 16, 3) := by decide +kernel
theorem own_d6_25 : decode prog_43_method_6_code 25 = .ok (.aload_n 0, 1) := by decide +kernel
theorem own_d6_26 : decode prog_43_method_6_code 26 = .ok (.getfield 17, 3) := by decide +kernel
theorem own_d6_29 : decode prog_43_method_6_code 29 = .ok (.bipush 24, 2) := by decide +kernel
theorem own_d6_31 : decode prog_43_method_6_code 31 = .ok (.if_icmp .gt 7, 3) := by decide +kernel
theorem own_d6_34 : decode prog_43_method_6_code 34 = .ok (.iconst 1, 1) := by decide +kernel
theorem own_d6_35 : decode prog_43_method_6_code 35 = .ok (.goto 4, 3) := by decide +kernel
theorem own_d6_38 : decode prog_43_method_6_code 38 = .ok (.iconst 0, 1) := by decide +kernel
theorem own_d6_39 : decode prog_43_method_6_code 39 = .ok (.ireturn, 1) := by decide +kernel
theorem own_efsp (m : MethodId) (a1 : Addr) : entryFrame m #[(.ref a1)] 1 = mkF m 0 #[.val (.ref a1)] [] := by first | (simp [entryFrame, mkF, argsToLocals, Value.category]; done) | rfl
def own_Qsp (Z : State) (a1 : Addr) (q1 : Int32) (q2 : Int32) (q4 : Int32) (h0 : Heap) (n0 : Nat) (v : Option Value) (h : Heap) (L : List Loc) : Prop := v = some (.int (own_sp q1 q2)) ∧ Fr n0 L ∧ h = h0
set_option maxRecDepth 65536 in
set_option maxHeartbeats 40000000 in
theorem own_rmsp (l : Launch) (Z : State) (aw : Array Value) (hw : ∀ d ∈ tables_1, d.before aw Z = true) (ws : List Jvm.Cond) (a1 : Addr) (q1 : Int32) (q2 : Int32) (q4 : Int32) (h0 : Heap) (n0 : Nat) (Z0 : n0 ≤ h0.size) (C0 : own_CD Z h0 a1 q1 q2 q4) :
    MetFree l (⟨"com/example/deliberate_session/deliberatesession/mapping/ColumnDescription", "singlePrecision", "()Z"⟩ : MethodName) (head1 (Jvm.Cond.code (⟨"com/example/deliberate_session/deliberatesession/mapping/ColumnDescription", "singlePrecision", "()Z"⟩ : MethodName) prog_43_method_6_code 1 (some .boolean) :: ws) ({ frames := 0, cells := 0, slots := 0, locals := 0 } : Room)) (fun a U => a = #[(.ref a1)] ∧ Z.Warmed39 U.vm ∧ U.heap = h0) (fun _ _ _ _ _ => True) (fun _ U o U' => ∃ v L, o = .returned v ∧ own_Qsp Z a1 q1 q2 q4 h0 n0 v U'.heap L ∧ FrameEnd U o U' L ({ frames := 0, cells := 0, slots := 0, locals := 0 } : Room).cells ({ frames := 0, cells := 0, slots := 0, locals := 0 } : Room).slots) := by
  refine own_met (Q := own_Qsp Z a1 q1 q2 q4 h0 n0) (plainFor_of_name own_pn3) ?_
  intro p e s m below meth c s₁ K hx hby hml hown hnm hret hZ X0 e0 hK
  have hown : s.vm.findClass "com/example/deliberate_session/deliberatesession/mapping/ColumnDescription" = some m.cls := hown
  have N0 := Fr.nil n0
  refine own_by (fun t k => castTop (own_efsp m a1) k) ?_
  show own_Go p.tables e below K (s₁.setTop (mkF m 0 #[.val (.ref a1)] []))
  refine own_by (fun t k => XS.aloadN X0.here hx rfl (hb hby own_d6_0) rfl rfl k) ?_
  show own_Go p.tables e below K (s₁.setTop (mkF m 1 #[.val (.ref a1)] [(.ref a1)]))
  obtain ⟨T8, X8, e8, st8⟩ := getF X0 hx hZ hown (host := "") (Or.inl (hw _ (List.mem_of_getElem? (i := 21) rfl))) Via.refl e0 C0.2.1 (g := (mkF m 1 #[.val (.ref a1)] [(.ref a1)])) rfl rfl (hb hby own_d6_1)
  refine own_by st8 ?_
  show own_Go p.tables e below K (T8.setTop (mkF m 4 #[.val (.ref a1)] [(.int q1)]))
  refine own_by (fun t k => XS.bipush X8.here hx rfl (hb hby own_d6_4) k) ?_
  show own_Go p.tables e below K (T8.setTop (mkF m 6 #[.val (.ref a1)] [(.int (7 : Int32)), (.int q1)]))
  by_cases hc6 : q1 = (7 : Int32)
  · refine own_by (fun t k => XS.icmpYes X8.here hx rfl (pc0 := 6) (pc' := 34) rfl (hb hby own_d6_6) rfl (teq hc6).1 (by decide) (by decide) k) ?_
    show own_Go p.tables e below K (T8.setTop (mkF m 34 #[.val (.ref a1)] []))
    refine own_by (fun t k => XS.iconst X8.here hx rfl (hb hby own_d6_34) k) ?_
    show own_Go p.tables e below K (T8.setTop (mkF m 35 #[.val (.ref a1)] [(.int (1 : Int32))]))
    refine own_by (fun t k => XS.goto X8.here hx rfl (pc0 := 35) (pc' := 39) rfl (hb hby own_d6_35) (by decide) (by decide) k) ?_
    show own_Go p.tables e below K (T8.setTop (mkF m 39 #[.val (.ref a1)] [(.int (1 : Int32))]))
    exact own_retZ X8 hx (t := .boolean) hret (by simp) (hb hby own_d6_39) (hK (some (.int (1 : Int32))) X8 (fun h => by rw [hret] at h; cases h) (⟨by simp [own_sp, own_bf, own_db, *], N0, e8⟩) (by decide) (by decide))
  · refine own_by (fun t k => XS.icmpNo X8.here hx rfl (hb hby own_d6_6) rfl (feq hc6).1 k) ?_
    show own_Go p.tables e below K (T8.setTop (mkF m 9 #[.val (.ref a1)] []))
    refine own_by (fun t k => XS.aloadN X8.here hx rfl (hb hby own_d6_9) rfl rfl k) ?_
    show own_Go p.tables e below K (T8.setTop (mkF m 10 #[.val (.ref a1)] [(.ref a1)]))
    obtain ⟨T9, X9, e9, st9⟩ := getF X8 hx hZ hown (host := "") (Or.inl (hw _ (List.mem_of_getElem? (i := 21) rfl))) Via.refl e8 C0.2.1 (g := (mkF m 10 #[.val (.ref a1)] [(.ref a1)])) rfl rfl (hb hby own_d6_10)
    refine own_by st9 ?_
    show own_Go p.tables e below K (T9.setTop (mkF m 13 #[.val (.ref a1)] [(.int q1)]))
    refine own_by (fun t k => XS.bipush X9.here hx rfl (hb hby own_d6_13) k) ?_
    show own_Go p.tables e below K (T9.setTop (mkF m 15 #[.val (.ref a1)] [(.int (6 : Int32)), (.int q1)]))
    by_cases hc15 : q1 = (6 : Int32)
    · refine own_by (fun t k => XS.icmpNo X9.here hx rfl (hb hby own_d6_15) rfl (teq hc15).2 k) ?_
      show own_Go p.tables e below K (T9.setTop (mkF m 18 #[.val (.ref a1)] []))
      refine own_by (fun t k => XS.aloadN X9.here hx rfl (hb hby own_d6_18) rfl rfl k) ?_
      show own_Go p.tables e below K (T9.setTop (mkF m 19 #[.val (.ref a1)] [(.ref a1)]))
      obtain ⟨T10, X10, e10, st10⟩ := getF X9 hx hZ hown (host := "") (Or.inl (hw _ (List.mem_of_getElem? (i := 25) rfl))) Via.refl e9 C0.2.2.1 (g := (mkF m 19 #[.val (.ref a1)] [(.ref a1)])) rfl rfl (hb hby own_d6_19)
      refine own_by st10 ?_
      show own_Go p.tables e below K (T10.setTop (mkF m 22 #[.val (.ref a1)] [(.int q2)]))
      by_cases hc22 : (0 : Int32) < q2
      · refine own_by (fun t k => XS.ifNo X10.here hx rfl (hb hby own_d6_22) rfl ((if0 _ _).trans (tlt hc22).2.2.2) k) ?_
        show own_Go p.tables e below K (T10.setTop (mkF m 25 #[.val (.ref a1)] []))
        refine own_by (fun t k => XS.aloadN X10.here hx rfl (hb hby own_d6_25) rfl rfl k) ?_
        show own_Go p.tables e below K (T10.setTop (mkF m 26 #[.val (.ref a1)] [(.ref a1)]))
        obtain ⟨T11, X11, e11, st11⟩ := getF X10 hx hZ hown (host := "") (Or.inl (hw _ (List.mem_of_getElem? (i := 25) rfl))) Via.refl e10 C0.2.2.1 (g := (mkF m 26 #[.val (.ref a1)] [(.ref a1)])) rfl rfl (hb hby own_d6_26)
        refine own_by st11 ?_
        show own_Go p.tables e below K (T11.setTop (mkF m 29 #[.val (.ref a1)] [(.int q2)]))
        refine own_by (fun t k => XS.bipush X11.here hx rfl (hb hby own_d6_29) k) ?_
        show own_Go p.tables e below K (T11.setTop (mkF m 31 #[.val (.ref a1)] [(.int (24 : Int32)), (.int q2)]))
        by_cases hc31 : (24 : Int32) < q2
        · refine own_by (fun t k => XS.icmpYes X11.here hx rfl (pc0 := 31) (pc' := 38) rfl (hb hby own_d6_31) rfl (tlt hc31).2.2.1 (by decide) (by decide) k) ?_
          show own_Go p.tables e below K (T11.setTop (mkF m 38 #[.val (.ref a1)] []))
          refine own_by (fun t k => XS.iconst X11.here hx rfl (hb hby own_d6_38) k) ?_
          show own_Go p.tables e below K (T11.setTop (mkF m 39 #[.val (.ref a1)] [(.int (0 : Int32))]))
          exact own_retZ X11 hx (t := .boolean) hret (by simp) (hb hby own_d6_39) (hK (some (.int (0 : Int32))) X11 (fun h => by rw [hret] at h; cases h) (⟨by simp [own_sp, own_bf, own_db, *], N0, e11⟩) (by decide) (by decide))
        · refine own_by (fun t k => XS.icmpNo X11.here hx rfl (hb hby own_d6_31) rfl (flt hc31).2.2.1 k) ?_
          show own_Go p.tables e below K (T11.setTop (mkF m 34 #[.val (.ref a1)] []))
          refine own_by (fun t k => XS.iconst X11.here hx rfl (hb hby own_d6_34) k) ?_
          show own_Go p.tables e below K (T11.setTop (mkF m 35 #[.val (.ref a1)] [(.int (1 : Int32))]))
          refine own_by (fun t k => XS.goto X11.here hx rfl (pc0 := 35) (pc' := 39) rfl (hb hby own_d6_35) (by decide) (by decide) k) ?_
          show own_Go p.tables e below K (T11.setTop (mkF m 39 #[.val (.ref a1)] [(.int (1 : Int32))]))
          exact own_retZ X11 hx (t := .boolean) hret (by simp) (hb hby own_d6_39) (hK (some (.int (1 : Int32))) X11 (fun h => by rw [hret] at h; cases h) (⟨by simp [own_sp, own_bf, own_db, *], N0, e11⟩) (by decide) (by decide))
      · refine own_by (fun t k => XS.ifYes X10.here hx rfl (pc0 := 22) (pc' := 38) rfl (hb hby own_d6_22) rfl ((if0 _ _).trans (flt hc22).2.2.2) (by decide) (by decide) k) ?_
        show own_Go p.tables e below K (T10.setTop (mkF m 38 #[.val (.ref a1)] []))
        refine own_by (fun t k => XS.iconst X10.here hx rfl (hb hby own_d6_38) k) ?_
        show own_Go p.tables e below K (T10.setTop (mkF m 39 #[.val (.ref a1)] [(.int (0 : Int32))]))
        exact own_retZ X10 hx (t := .boolean) hret (by simp) (hb hby own_d6_39) (hK (some (.int (0 : Int32))) X10 (fun h => by rw [hret] at h; cases h) (⟨by simp [own_sp, own_bf, own_db, *], N0, e10⟩) (by decide) (by decide))
    · refine own_by (fun t k => XS.icmpYes X9.here hx rfl (pc0 := 15) (pc' := 38) rfl (hb hby own_d6_15) rfl (feq hc15).2 (by decide) (by decide) k) ?_
      show own_Go p.tables e below K (T9.setTop (mkF m 38 #[.val (.ref a1)] []))
      refine own_by (fun t k => XS.iconst X9.here hx rfl (hb hby own_d6_38) k) ?_
      show own_Go p.tables e below K (T9.setTop (mkF m 39 #[.val (.ref a1)] [(.int (0 : Int32))]))
      exact own_retZ X9 hx (t := .boolean) hret (by simp) (hb hby own_d6_39) (hK (some (.int (0 : Int32))) X9 (fun h => by rw [hret] at h; cases h) (⟨by simp [own_sp, own_bf, own_db, *], N0, e9⟩) (by decide) (by decide))
theorem own_d7_0 : decode prog_43_method_5_code 0 = .ok (.aload_n 0, 1) := by decide +kernel
theorem own_d7_1 : decode prog_43_method_5_code 1 = .ok (.getfield 7, 3) := by decide +kernel
theorem own_d7_4 : decode prog_43_method_5_code 4 = .ok (.tableswitch 32 6 8 #[28, 28, 28], 28) := by decide +kernel
theorem own_d7_32 : decode prog_43_method_5_code 32 = .ok (.iconst 1, 1) := by decide +kernel
theorem own_d7_33 : decode prog_43_method_5_code 33 = .ok (.goto 4, 3) := by decide +kernel
theorem own_d7_36 : decode prog_43_method_5_code 36 = .ok (.iconst 0, 1) := by decide +kernel
theorem own_d7_37 : decode prog_43_method_5_code 37 = .ok (.ireturn, 1) := by decide +kernel
theorem own_efbf (m : MethodId) (a1 : Addr) : entryFrame m #[(.ref a1)] 1 = mkF m 0 #[.val (.ref a1)] [] := by first | (simp [entryFrame, mkF, argsToLocals, Value.category]; done) | rfl
def own_Qbf (Z : State) (a1 : Addr) (q1 : Int32) (q2 : Int32) (q4 : Int32) (h0 : Heap) (n0 : Nat) (v : Option Value) (h : Heap) (L : List Loc) : Prop := v = some (.int (own_bf q1)) ∧ Fr n0 L ∧ h = h0
set_option maxRecDepth 65536 in
set_option maxHeartbeats 40000000 in
theorem own_rmbf (l : Launch) (Z : State) (aw : Array Value) (hw : ∀ d ∈ tables_1, d.before aw Z = true) (ws : List Jvm.Cond) (a1 : Addr) (q1 : Int32) (q2 : Int32) (q4 : Int32) (h0 : Heap) (n0 : Nat) (Z0 : n0 ≤ h0.size) (C0 : own_CD Z h0 a1 q1 q2 q4) :
    MetFree l (⟨"com/example/deliberate_session/deliberatesession/mapping/ColumnDescription", "binaryFloatingPoint", "()Z"⟩ : MethodName) (head1 (Jvm.Cond.code (⟨"com/example/deliberate_session/deliberatesession/mapping/ColumnDescription", "binaryFloatingPoint", "()Z"⟩ : MethodName) prog_43_method_5_code 1 (some .boolean) :: ws) ({ frames := 0, cells := 0, slots := 0, locals := 0 } : Room)) (fun a U => a = #[(.ref a1)] ∧ Z.Warmed39 U.vm ∧ U.heap = h0) (fun _ _ _ _ _ => True) (fun _ U o U' => ∃ v L, o = .returned v ∧ own_Qbf Z a1 q1 q2 q4 h0 n0 v U'.heap L ∧ FrameEnd U o U' L ({ frames := 0, cells := 0, slots := 0, locals := 0 } : Room).cells ({ frames := 0, cells := 0, slots := 0, locals := 0 } : Room).slots) := by
  refine own_met (Q := own_Qbf Z a1 q1 q2 q4 h0 n0) (plainFor_of_name own_pn3) ?_
  intro p e s m below meth c s₁ K hx hby hml hown hnm hret hZ X0 e0 hK
  have hown : s.vm.findClass "com/example/deliberate_session/deliberatesession/mapping/ColumnDescription" = some m.cls := hown
  have N0 := Fr.nil n0
  refine own_by (fun t k => castTop (own_efbf m a1) k) ?_
  show own_Go p.tables e below K (s₁.setTop (mkF m 0 #[.val (.ref a1)] []))
  refine own_by (fun t k => XS.aloadN X0.here hx rfl (hb hby own_d7_0) rfl rfl k) ?_
  show own_Go p.tables e below K (s₁.setTop (mkF m 1 #[.val (.ref a1)] [(.ref a1)]))
  obtain ⟨T12, X12, e12, st12⟩ := getF X0 hx hZ hown (host := "") (Or.inl (hw _ (List.mem_of_getElem? (i := 21) rfl))) Via.refl e0 C0.2.1 (g := (mkF m 1 #[.val (.ref a1)] [(.ref a1)])) rfl rfl (hb hby own_d7_1)
  refine own_by st12 ?_
  show own_Go p.tables e below K (T12.setTop (mkF m 4 #[.val (.ref a1)] [(.int q1)]))
  by_cases hs4_6 : q1 = (6 : Int32)
  · refine own_by (fun t k => XS.tswIn X12.here hx rfl (pc0 := 4) (pc' := 32) (o := 28) rfl (hb hby own_d7_4) rfl (by rw [hs4_6]; decide) (by rw [hs4_6]; rfl) (by decide) (by decide) k) ?_
    show own_Go p.tables e below K (T12.setTop (mkF m 32 #[.val (.ref a1)] []))
    refine own_by (fun t k => XS.iconst X12.here hx rfl (hb hby own_d7_32) k) ?_
    show own_Go p.tables e below K (T12.setTop (mkF m 33 #[.val (.ref a1)] [(.int (1 : Int32))]))
    refine own_by (fun t k => XS.goto X12.here hx rfl (pc0 := 33) (pc' := 37) rfl (hb hby own_d7_33) (by decide) (by decide) k) ?_
    show own_Go p.tables e below K (T12.setTop (mkF m 37 #[.val (.ref a1)] [(.int (1 : Int32))]))
    exact own_retZ X12 hx (t := .boolean) hret (by simp) (hb hby own_d7_37) (hK (some (.int (1 : Int32))) X12 (fun h => by rw [hret] at h; cases h) (⟨by simp [own_sp, own_bf, own_db, *], N0, e12⟩) (by decide) (by decide))
  by_cases hs4_7 : q1 = (7 : Int32)
  · refine own_by (fun t k => XS.tswIn X12.here hx rfl (pc0 := 4) (pc' := 32) (o := 28) rfl (hb hby own_d7_4) rfl (by rw [hs4_7]; decide) (by rw [hs4_7]; rfl) (by decide) (by decide) k) ?_
    show own_Go p.tables e below K (T12.setTop (mkF m 32 #[.val (.ref a1)] []))
    refine own_by (fun t k => XS.iconst X12.here hx rfl (hb hby own_d7_32) k) ?_
    show own_Go p.tables e below K (T12.setTop (mkF m 33 #[.val (.ref a1)] [(.int (1 : Int32))]))
    refine own_by (fun t k => XS.goto X12.here hx rfl (pc0 := 33) (pc' := 37) rfl (hb hby own_d7_33) (by decide) (by decide) k) ?_
    show own_Go p.tables e below K (T12.setTop (mkF m 37 #[.val (.ref a1)] [(.int (1 : Int32))]))
    exact own_retZ X12 hx (t := .boolean) hret (by simp) (hb hby own_d7_37) (hK (some (.int (1 : Int32))) X12 (fun h => by rw [hret] at h; cases h) (⟨by simp [own_sp, own_bf, own_db, *], N0, e12⟩) (by decide) (by decide))
  by_cases hs4_8 : q1 = (8 : Int32)
  · refine own_by (fun t k => XS.tswIn X12.here hx rfl (pc0 := 4) (pc' := 32) (o := 28) rfl (hb hby own_d7_4) rfl (by rw [hs4_8]; decide) (by rw [hs4_8]; rfl) (by decide) (by decide) k) ?_
    show own_Go p.tables e below K (T12.setTop (mkF m 32 #[.val (.ref a1)] []))
    refine own_by (fun t k => XS.iconst X12.here hx rfl (hb hby own_d7_32) k) ?_
    show own_Go p.tables e below K (T12.setTop (mkF m 33 #[.val (.ref a1)] [(.int (1 : Int32))]))
    refine own_by (fun t k => XS.goto X12.here hx rfl (pc0 := 33) (pc' := 37) rfl (hb hby own_d7_33) (by decide) (by decide) k) ?_
    show own_Go p.tables e below K (T12.setTop (mkF m 37 #[.val (.ref a1)] [(.int (1 : Int32))]))
    exact own_retZ X12 hx (t := .boolean) hret (by simp) (hb hby own_d7_37) (hK (some (.int (1 : Int32))) X12 (fun h => by rw [hret] at h; cases h) (⟨by simp [own_sp, own_bf, own_db, *], N0, e12⟩) (by decide) (by decide))
  refine own_by (fun t k => XS.tswOut X12.here hx rfl (pc0 := 4) (pc' := 36) rfl (hb hby own_d7_4) rfl (by have q0 := own_ni hs4_6 (n := 6) (by decide); have q1 := own_ni hs4_7 (n := 7) (by decide); have q2 := own_ni hs4_8 (n := 8) (by decide); omega) (by decide) (by decide) k) ?_
  show own_Go p.tables e below K (T12.setTop (mkF m 36 #[.val (.ref a1)] []))
  refine own_by (fun t k => XS.iconst X12.here hx rfl (hb hby own_d7_36) k) ?_
  show own_Go p.tables e below K (T12.setTop (mkF m 37 #[.val (.ref a1)] [(.int (0 : Int32))]))
  exact own_retZ X12 hx (t := .boolean) hret (by simp) (hb hby own_d7_37) (hK (some (.int (0 : Int32))) X12 (fun h => by rw [hret] at h; cases h) (⟨by simp [own_sp, own_bf, own_db, *], N0, e12⟩) (by decide) (by decide))
theorem own_pd1 : parseMethodDescriptor "()Z" = some ⟨[], some .boolean⟩ := by decide +kernel
theorem own_d8_0 : decode prog_43_method_7_code 0 = .ok (.aload_n 0, 1) := by decide +kernel
theorem own_d8_1 : decode prog_43_method_7_code 1 = .ok (.invokevirtual 59, 3) := by decide +kernel
theorem own_d8_4 : decode prog_43_method_7_code 4 = .ok (.ifCond .eq 10, 3) := by decide +kernel
theorem own_d8_7 : decode prog_43_method_7_code 7 = .ok (.aload_n 0, 1) := by decide +kernel
theorem own_d8_8 : decode prog_43_method_7_code 8 = .ok (.getfield 23, 3) := by decide +kernel
theorem own_d8_11 : decode prog_43_method_7_code 11 = .ok (.goto 4, 3) := by decide +kernel
theorem own_d8_14 : decode prog_43_method_7_code 14 = .ok (.iconst 0, 1) := by decide +kernel
theorem own_d8_15 : decode prog_43_method_7_code 15 = .ok (.ireturn, 1) := by decide +kernel
theorem own_efdb (m : MethodId) (a1 : Addr) : entryFrame m #[(.ref a1)] 1 = mkF m 0 #[.val (.ref a1)] [] := by first | (simp [entryFrame, mkF, argsToLocals, Value.category]; done) | rfl
def own_Qdb (Z : State) (a1 : Addr) (q1 : Int32) (q2 : Int32) (q4 : Int32) (h0 : Heap) (n0 : Nat) (v : Option Value) (h : Heap) (L : List Loc) : Prop := v = some (.int (own_db q1 q2 q4)) ∧ Fr n0 L ∧ h = h0
set_option maxRecDepth 65536 in
set_option maxHeartbeats 40000000 in
theorem own_rmdb (l : Launch) (Z : State) (aw : Array Value) (hw : ∀ d ∈ tables_1, d.before aw Z = true) (ws : List Jvm.Cond) (a1 : Addr) (q1 : Int32) (q2 : Int32) (q4 : Int32) (h0 : Heap) (n0 : Nat) (Z0 : n0 ≤ h0.size) (C0 : own_CD Z h0 a1 q1 q2 q4) :
    MetFree l (⟨"com/example/deliberate_session/deliberatesession/mapping/ColumnDescription", "digitsReadBack", "()I"⟩ : MethodName) (head1 (Jvm.Cond.code (⟨"com/example/deliberate_session/deliberatesession/mapping/ColumnDescription", "digitsReadBack", "()I"⟩ : MethodName) prog_43_method_7_code 1 (some .int) :: ws) ({ frames := 1, cells := 0, slots := 0, locals := 12 } : Room)) (fun a U => a = #[(.ref a1)] ∧ Z.Warmed39 U.vm ∧ U.heap = h0) (fun _ _ _ _ _ => True) (fun _ U o U' => ∃ v L, o = .returned v ∧ own_Qdb Z a1 q1 q2 q4 h0 n0 v U'.heap L ∧ FrameEnd U o U' L ({ frames := 1, cells := 0, slots := 0, locals := 12 } : Room).cells ({ frames := 1, cells := 0, slots := 0, locals := 12 } : Room).slots) := by
  refine own_met (Q := own_Qdb Z a1 q1 q2 q4 h0 n0) (plainFor_of_name own_pn3) ?_
  intro p e s m below meth c s₁ K hx hby hml hown hnm hret hZ X0 e0 hK
  have hown : s.vm.findClass "com/example/deliberate_session/deliberatesession/mapping/ColumnDescription" = some m.cls := hown
  have N0 := Fr.nil n0
  refine own_by (fun t k => castTop (own_efdb m a1) k) ?_
  show own_Go p.tables e below K (s₁.setTop (mkF m 0 #[.val (.ref a1)] []))
  refine own_by (fun t k => XS.aloadN X0.here hx rfl (hb hby own_d8_0) rfl rfl k) ?_
  show own_Go p.tables e below K (s₁.setTop (mkF m 1 #[.val (.ref a1)] [(.ref a1)]))
  obtain ⟨cq13, kq13, q13a, q13b, q13c⟩ := isOf hZ e0 C0.1
  obtain ⟨_, _, ⟨T13, L13, k13, n13⟩, -, X13, ⟨Lc13, hQ13, l13, y13, z13⟩, st13⟩ := X0.virtualBack hx (y := (⟨"com/example/deliberate_session/deliberatesession/mapping/ColumnDescription", "singlePrecision", "()Z"⟩ : MethodName)) (z := (⟨"com/example/deliberate_session/deliberatesession/mapping/ColumnDescription", "singlePrecision", "()Z"⟩ : MethodName)) hown (mvT hZ (hw _ (List.mem_of_getElem? (i := 46) rfl))) (mvT hZ (hw _ (List.mem_of_getElem? (i := 32) rfl))) (notFace_of_selects (args := #[]) (mvT hZ (hw _ (List.mem_of_getElem? (i := 34) rfl)))) (mvT hZ (hw _ (List.mem_of_getElem? (i := 34) rfl))) (mvT hZ (hw _ (List.mem_of_getElem? (i := 33) rfl))) (by decide) (backOf (W := 0) (own_rmsp l Z aw hw [] a1 q1 q2 q4 h0 n0 Z0 C0) hZ (hw _ (List.mem_of_getElem? (i := 35) rfl)) (hw _ (List.mem_of_getElem? (i := 9) rfl)) (by decide) (by decide)) q13a q13c (g := (mkF m 1 #[.val (.ref a1)] [(.ref a1)])) rfl (by rw [hml]; rfl) (Steps.refl _) (argsL := []) (rest := []) (lenOf own_pd1 rfl) rfl (by show 2 * 0 + _ ≤ _; exact Nat.le_of_eq rfl) (hb hby own_d8_1) (fun _ _ => ⟨rfl, e0, (by decide : 0 + 0 ≤ _), (by decide : 0 + 0 ≤ _)⟩)
  dsimp only [Pt.U, Pt.locs, Pt.cells, Pt.slots] at X13 l13 y13 z13 st13 hQ13
  subst l13 y13 z13
  obtain ⟨rfl, N13q, e13⟩ := hQ13
  have N13 := Fr.app N0 N13q
  refine own_by (fun t k => st13.trans k) ?_
  show own_Go p.tables e below K (T13.setTop (mkF m 4 #[.val (.ref a1)] [(.int (own_sp q1 q2))]))
  by_cases hc4 : (own_sp q1 q2) = (0 : Int32)
  · refine own_by (fun t k => XS.ifYes X13.here hx rfl (pc0 := 4) (pc' := 14) rfl (hb hby own_d8_4) rfl ((if0 _ _).trans (teq hc4).1) (by decide) (by decide) k) ?_
    show own_Go p.tables e below K (T13.setTop (mkF m 14 #[.val (.ref a1)] []))
    refine own_by (fun t k => XS.iconst X13.here hx rfl (hb hby own_d8_14) k) ?_
    show own_Go p.tables e below K (T13.setTop (mkF m 15 #[.val (.ref a1)] [(.int (0 : Int32))]))
    exact own_retI X13 hx hret (hb hby own_d8_15) (hK (some (.int (0 : Int32))) X13 (fun h => by rw [hret] at h; cases h) (⟨by simp [own_db, *], N13, e13⟩) (by decide) (by decide))
  · refine own_by (fun t k => XS.ifNo X13.here hx rfl (hb hby own_d8_4) rfl ((if0 _ _).trans (feq hc4).1) k) ?_
    show own_Go p.tables e below K (T13.setTop (mkF m 7 #[.val (.ref a1)] []))
    refine own_by (fun t k => XS.aloadN X13.here hx rfl (hb hby own_d8_7) rfl rfl k) ?_
    show own_Go p.tables e below K (T13.setTop (mkF m 8 #[.val (.ref a1)] [(.ref a1)]))
    obtain ⟨T14, X14, e14, st14⟩ := getF X13 hx hZ hown (host := "") (Or.inl (hw _ (List.mem_of_getElem? (i := 29) rfl))) Via.refl e13 C0.2.2.2 (g := (mkF m 8 #[.val (.ref a1)] [(.ref a1)])) rfl rfl (hb hby own_d8_8)
    refine own_by st14 ?_
    show own_Go p.tables e below K (T14.setTop (mkF m 11 #[.val (.ref a1)] [(.int q4)]))
    refine own_by (fun t k => XS.goto X14.here hx rfl (pc0 := 11) (pc' := 15) rfl (hb hby own_d8_11) (by decide) (by decide) k) ?_
    show own_Go p.tables e below K (T14.setTop (mkF m 15 #[.val (.ref a1)] [(.int q4)]))
    exact own_retI X14 hx hret (hb hby own_d8_15) (hK (some (.int q4)) X14 (fun h => by rw [hret] at h; cases h) (⟨by simp [own_db, *], N13, e14⟩) (by decide) (by decide))
theorem own_pd2 : parseMethodDescriptor "(II)I" = some ⟨[.int, .int], some .int⟩ := by decide +kernel
theorem own_pd3 : parseMethodDescriptor "(ILjava/lang/String;III)V" = some ⟨[.int, (.object "java/lang/String"), .int, .int, .int], none⟩ := by decide +kernel
theorem own_pd4 : parseMethodDescriptor "()I" = some ⟨[], some .int⟩ := by decide +kernel
theorem own_ef0 (m : MethodId) (q1 : Int32) (q2 : Int32) (q3 : Int32) (q4 : Int32) (q5 : Int32) (q6 : Int32) : entryFrame m #[(.int q1), (.int q2), (.int q3), (.int q4), (.int q5), (.int q6)] maxLocals = mkF m 0 #[.val (.int q1), .val (.int q2), .val (.int q3), .val (.int q4), .val (.int q5), .val (.int q6), .unset, .unset, .unset, .unset, .unset, .unset, .unset] [] := by first | (simp [entryFrame, mkF, argsToLocals, Value.category, maxLocals]; done) | rfl
def own_Q0 (Z : State) (q1 : Int32) (q2 : Int32) (q3 : Int32) (q4 : Int32) (q5 : Int32) (q6 : Int32) (h0 : Heap) (n0 : Nat) (v : Option Value) (h : Heap) (L : List Loc) : Prop := v = some (.int (1 : Int32)) ∧ Fr n0 L
set_option maxRecDepth 65536 in
set_option maxHeartbeats 40000000 in
theorem own_rm0 (l : Launch) (Z : State) (aw : Array Value) (hw : ∀ d ∈ tables_1, d.before aw Z = true) (ws : List Jvm.Cond) (q1 : Int32) (q2 : Int32) (q3 : Int32) (q4 : Int32) (q5 : Int32) (q6 : Int32) (h0 : Heap) (n0 : Nat) (Z0 : n0 ≤ h0.size)  :
    MetFree l x (head1 (Jvm.Cond.code x code maxLocals ret :: ws) room_1) (fun a U => a = #[(.int q1), (.int q2), (.int q3), (.int q4), (.int q5), (.int q6)] ∧ Z.Warmed39 U.vm ∧ U.heap = h0) (fun _ _ _ _ _ => True) (fun _ U o U' => ∃ v L, o = .returned v ∧ own_Q0 Z q1 q2 q3 q4 q5 q6 h0 n0 v U'.heap L ∧ FrameEnd U o U' L 1 5) := by
  refine own_met (Q := own_Q0 Z q1 q2 q3 q4 q5 q6 h0 n0) (plainFor_of_name own_pn1) ?_
  intro p e s m below meth c s₁ K hx hby hml hown hnm hret hZ X0 e0 hK
  have hown : s.vm.findClass "com/example/deliberate_session/deliberatesession/mapping/ColumnDescriptionSinglePrecisionPinLaw" = some m.cls := hown
  have N0 := Fr.nil n0
  refine own_by (fun t k => castTop (own_ef0 m q1 q2 q3 q4 q5 q6) k) ?_
  show own_Go p.tables e below K (s₁.setTop (mkF m 0 #[.val (.int q1), .val (.int q2), .val (.int q3), .val (.int q4), .val (.int q5), .val (.int q6), .unset, .unset, .unset, .unset, .unset, .unset, .unset] []))
  refine own_by (fun t k => XS.iloadN X0.here hx rfl (hb hby at_0) rfl k) ?_
  show own_Go p.tables e below K (s₁.setTop (mkF m 1 #[.val (.int q1), .val (.int q2), .val (.int q3), .val (.int q4), .val (.int q5), .val (.int q6), .unset, .unset, .unset, .unset, .unset, .unset, .unset] [(.int q1)]))
  refine own_by (fun t k => XS.iconst X0.here hx rfl (hb hby at_1) k) ?_
  show own_Go p.tables e below K (s₁.setTop (mkF m 2 #[.val (.int q1), .val (.int q2), .val (.int q3), .val (.int q4), .val (.int q5), .val (.int q6), .unset, .unset, .unset, .unset, .unset, .unset, .unset] [(.int (3 : Int32)), (.int q1)]))
  refine own_by (fun t k => XS.iand X0.here hx rfl (hb hby at_2) rfl k) ?_
  show own_Go p.tables e below K (s₁.setTop (mkF m 3 #[.val (.int q1), .val (.int q2), .val (.int q3), .val (.int q4), .val (.int q5), .val (.int q6), .unset, .unset, .unset, .unset, .unset, .unset, .unset] [(.int (q1 &&& (3 : Int32)))]))
  refine own_by (fun t k => XS.iloadN X0.here hx rfl (hb hby at_3) rfl k) ?_
  show own_Go p.tables e below K (s₁.setTop (mkF m 4 #[.val (.int q1), .val (.int q2), .val (.int q3), .val (.int q4), .val (.int q5), .val (.int q6), .unset, .unset, .unset, .unset, .unset, .unset, .unset] [(.int q2), (.int (q1 &&& (3 : Int32)))]))
  obtain ⟨_, _, ⟨T15, L15, k15, n15⟩, -, X15, ⟨Lc15, hQ15, l15, y15, z15⟩, st15⟩ := Jvm.LawKit.callS X0 hx (y := (⟨"com/example/deliberate_session/deliberatesession/mapping/ColumnDescriptionSinglePrecisionPinLaw", "pickType", "(II)I"⟩ : MethodName)) hown (mvT hZ (hw _ (List.mem_of_getElem? (i := 0) rfl))) (mvT hZ (hw _ (List.mem_of_getElem? (i := 1) rfl))) (mvT hZ (hw _ (List.mem_of_getElem? (i := 2) rfl))) (mvT hZ (hw _ (List.mem_of_getElem? (i := 3) rfl))) (by decide) (backOf (W := 0) (own_rmpt l Z aw hw [] (q1 &&& (3 : Int32)) q2 h0 n0 Z0) hZ (hw _ (List.mem_of_getElem? (i := 3) rfl)) (hw _ (List.mem_of_getElem? (i := 2) rfl)) (by decide) (by decide)) (g := (mkF m 4 #[.val (.int q1), .val (.int q2), .val (.int q3), .val (.int q4), .val (.int q5), .val (.int q6), .unset, .unset, .unset, .unset, .unset, .unset, .unset] [(.int q2), (.int (q1 &&& (3 : Int32)))])) rfl (by rw [hml]; rfl) (argsL := [(.int (q1 &&& (3 : Int32))), (.int q2)]) (rest := []) (lenOf own_pd2 rfl) rfl (by show 2 * 0 + _ ≤ _; exact Nat.le_of_eq rfl) (hb hby at_4) (fun _ _ => ⟨rfl, e0, (by decide : 0 + 0 ≤ _), (by decide : 0 + 0 ≤ _)⟩)
  dsimp only [Pt.U, Pt.locs, Pt.cells, Pt.slots] at X15 l15 y15 z15 st15 hQ15
  subst l15 y15 z15
  obtain ⟨rfl, N15q, e15⟩ := hQ15
  have N15 := Fr.app N0 N15q
  refine own_by st15 ?_
  generalize (own_pt (q1 &&& (3 : Int32)) q2) = tt
  show own_Go p.tables e below K (T15.setTop (mkF m 7 #[.val (.int q1), .val (.int q2), .val (.int q3), .val (.int q4), .val (.int q5), .val (.int q6), .unset, .unset, .unset, .unset, .unset, .unset, .unset] [(.int tt)]))
  refine own_by (fun t k => XS.istore X15.here hx rfl (hb hby at_7) rfl (l' := #[.val (.int q1), .val (.int q2), .val (.int q3), .val (.int q4), .val (.int q5), .val (.int q6), .val (.int tt), .unset, .unset, .unset, .unset, .unset, .unset]) rfl k) ?_
  show own_Go p.tables e below K (T15.setTop (mkF m 9 #[.val (.int q1), .val (.int q2), .val (.int q3), .val (.int q4), .val (.int q5), .val (.int q6), .val (.int tt), .unset, .unset, .unset, .unset, .unset, .unset] []))
  refine own_by (fun t k => XS.iloadN X15.here hx rfl (hb hby at_9) rfl k) ?_
  show own_Go p.tables e below K (T15.setTop (mkF m 10 #[.val (.int q1), .val (.int q2), .val (.int q3), .val (.int q4), .val (.int q5), .val (.int q6), .val (.int tt), .unset, .unset, .unset, .unset, .unset, .unset] [(.int q3)]))
  refine own_by (fun t k => XS.bipush X15.here hx rfl (hb hby at_10) k) ?_
  show own_Go p.tables e below K (T15.setTop (mkF m 12 #[.val (.int q1), .val (.int q2), .val (.int q3), .val (.int q4), .val (.int q5), .val (.int q6), .val (.int tt), .unset, .unset, .unset, .unset, .unset, .unset] [(.int (7 : Int32)), (.int q3)]))
  refine own_by (fun t k => XS.iand X15.here hx rfl (hb hby at_12) rfl k) ?_
  show own_Go p.tables e below K (T15.setTop (mkF m 13 #[.val (.int q1), .val (.int q2), .val (.int q3), .val (.int q4), .val (.int q5), .val (.int q6), .val (.int tt), .unset, .unset, .unset, .unset, .unset, .unset] [(.int (q3 &&& (7 : Int32)))]))
  refine own_by (fun t k => XS.iloadN X15.here hx rfl (hb hby at_13) rfl k) ?_
  show own_Go p.tables e below K (T15.setTop (mkF m 14 #[.val (.int q1), .val (.int q2), .val (.int q3), .val (.int q4), .val (.int q5), .val (.int q6), .val (.int tt), .unset, .unset, .unset, .unset, .unset, .unset] [(.int q4), (.int (q3 &&& (7 : Int32)))]))
  obtain ⟨_, _, ⟨T16, L16, k16, n16⟩, -, X16, ⟨Lc16, hQ16, l16, y16, z16⟩, st16⟩ := Jvm.LawKit.callS X15 hx (y := (⟨"com/example/deliberate_session/deliberatesession/mapping/ColumnDescriptionSinglePrecisionPinLaw", "pickPrecision", "(II)I"⟩ : MethodName)) hown (mvT hZ (hw _ (List.mem_of_getElem? (i := 4) rfl))) (mvT hZ (hw _ (List.mem_of_getElem? (i := 5) rfl))) (mvT hZ (hw _ (List.mem_of_getElem? (i := 2) rfl))) (mvT hZ (hw _ (List.mem_of_getElem? (i := 6) rfl))) (by decide) (backOf (W := 0) (own_rmpp l Z aw hw [] (q3 &&& (7 : Int32)) q4 h0 n0 Z0) hZ (hw _ (List.mem_of_getElem? (i := 6) rfl)) (hw _ (List.mem_of_getElem? (i := 2) rfl)) (by decide) (by decide)) (g := (mkF m 14 #[.val (.int q1), .val (.int q2), .val (.int q3), .val (.int q4), .val (.int q5), .val (.int q6), .val (.int tt), .unset, .unset, .unset, .unset, .unset, .unset] [(.int q4), (.int (q3 &&& (7 : Int32)))])) rfl (by rw [hml]; rfl) (argsL := [(.int (q3 &&& (7 : Int32))), (.int q4)]) (rest := []) (lenOf own_pd2 rfl) rfl (by show 2 * 0 + _ ≤ _; exact Nat.le_of_eq rfl) (hb hby at_14) (fun _ _ => ⟨rfl, e15, (by decide : 0 + 0 ≤ _), (by decide : 0 + 0 ≤ _)⟩)
  dsimp only [Pt.U, Pt.locs, Pt.cells, Pt.slots] at X16 l16 y16 z16 st16 hQ16
  subst l16 y16 z16
  obtain ⟨rfl, N16q, e16⟩ := hQ16
  have N16 := Fr.app N15 N16q
  refine own_by st16 ?_
  generalize (own_pp (q3 &&& (7 : Int32)) q4) = pp
  show own_Go p.tables e below K (T16.setTop (mkF m 17 #[.val (.int q1), .val (.int q2), .val (.int q3), .val (.int q4), .val (.int q5), .val (.int q6), .val (.int tt), .unset, .unset, .unset, .unset, .unset, .unset] [(.int pp)]))
  refine own_by (fun t k => XS.istore X16.here hx rfl (hb hby at_17) rfl (l' := #[.val (.int q1), .val (.int q2), .val (.int q3), .val (.int q4), .val (.int q5), .val (.int q6), .val (.int tt), .val (.int pp), .unset, .unset, .unset, .unset, .unset]) rfl k) ?_
  show own_Go p.tables e below K (T16.setTop (mkF m 19 #[.val (.int q1), .val (.int q2), .val (.int q3), .val (.int q4), .val (.int q5), .val (.int q6), .val (.int tt), .val (.int pp), .unset, .unset, .unset, .unset, .unset] []))
  obtain ⟨T17, h17, X17, e17, E17, A17, D17, -, st17⟩ := newO X16 hx hZ hown (hw _ (List.mem_of_getElem? (i := 7) rfl)) (hw _ (List.mem_of_getElem? (i := 8) rfl)) (hw _ (List.mem_of_getElem? (i := 9) rfl)) e16 (g := (mkF m 19 #[.val (.int q1), .val (.int q2), .val (.int q3), .val (.int q4), .val (.int q5), .val (.int q6), .val (.int tt), .val (.int pp), .unset, .unset, .unset, .unset, .unset] [])) rfl (hb hby at_19) (by decide) (by decide)
  obtain ⟨b17, g17⟩ : ∃ z, z = h0.size := ⟨_, rfl⟩
  rw [← g17] at A17 D17 st17
  refine own_by st17 ?_
  have gn_b17 : n0 ≤ b17 := Nat.le_trans Z0 (Nat.le_of_eq g17.symm)
  have Z17 := Nat.le_trans Z0 E17.1
  have F17_sqlType_b17 : Fld Z h17 b17 "com/example/deliberate_session/deliberatesession/mapping/ColumnDescription" "sqlType" "I" (.int (0 : Int32)) := D17 (Or.inr (hw _ (List.mem_of_getElem? (i := 22) rfl))) (ty := .int) (by decide)
  have F17_typeName_b17 : Fld Z h17 b17 "com/example/deliberate_session/deliberatesession/mapping/ColumnDescription" "typeName" "Ljava/lang/String;" .null := D17 (Or.inr (hw _ (List.mem_of_getElem? (i := 24) rfl))) (ty := (.object "java/lang/String")) (by decide)
  have F17_precision_b17 : Fld Z h17 b17 "com/example/deliberate_session/deliberatesession/mapping/ColumnDescription" "precision" "I" (.int (0 : Int32)) := D17 (Or.inr (hw _ (List.mem_of_getElem? (i := 26) rfl))) (ty := .int) (by decide)
  have F17_scale_b17 : Fld Z h17 b17 "com/example/deliberate_session/deliberatesession/mapping/ColumnDescription" "scale" "I" (.int (0 : Int32)) := D17 (Or.inr (hw _ (List.mem_of_getElem? (i := 28) rfl))) (ty := .int) (by decide)
  have F17_singlePrecisionDigits_b17 : Fld Z h17 b17 "com/example/deliberate_session/deliberatesession/mapping/ColumnDescription" "singlePrecisionDigits" "I" (.int (0 : Int32)) := D17 (Or.inr (hw _ (List.mem_of_getElem? (i := 30) rfl))) (ty := .int) (by decide)
  show own_Go p.tables e below K (T17.setTop (mkF m 22 #[.val (.int q1), .val (.int q2), .val (.int q3), .val (.int q4), .val (.int q5), .val (.int q6), .val (.int tt), .val (.int pp), .unset, .unset, .unset, .unset, .unset] [(.ref b17)]))
  refine own_by (fun t k => XS.dup X17.here hx rfl (hb hby at_22) rfl rfl k) ?_
  show own_Go p.tables e below K (T17.setTop (mkF m 23 #[.val (.int q1), .val (.int q2), .val (.int q3), .val (.int q4), .val (.int q5), .val (.int q6), .val (.int tt), .val (.int pp), .unset, .unset, .unset, .unset, .unset] [(.ref b17), (.ref b17)]))
  refine own_by (fun t k => XS.iload X17.here hx rfl (hb hby at_23) rfl k) ?_
  show own_Go p.tables e below K (T17.setTop (mkF m 25 #[.val (.int q1), .val (.int q2), .val (.int q3), .val (.int q4), .val (.int q5), .val (.int q6), .val (.int tt), .val (.int pp), .unset, .unset, .unset, .unset, .unset] [(.int tt), (.ref b17), (.ref b17)]))
  refine own_by (fun t k => XS.aconstNull X17.here hx rfl (hb hby at_25) k) ?_
  show own_Go p.tables e below K (T17.setTop (mkF m 26 #[.val (.int q1), .val (.int q2), .val (.int q3), .val (.int q4), .val (.int q5), .val (.int q6), .val (.int tt), .val (.int pp), .unset, .unset, .unset, .unset, .unset] [.null, (.int tt), (.ref b17), (.ref b17)]))
  refine own_by (fun t k => XS.iload X17.here hx rfl (hb hby at_26) rfl k) ?_
  show own_Go p.tables e below K (T17.setTop (mkF m 28 #[.val (.int q1), .val (.int q2), .val (.int q3), .val (.int q4), .val (.int q5), .val (.int q6), .val (.int tt), .val (.int pp), .unset, .unset, .unset, .unset, .unset] [(.int pp), .null, (.int tt), (.ref b17), (.ref b17)]))
  refine own_by (fun t k => XS.iload X17.here hx rfl (hb hby at_28) rfl k) ?_
  show own_Go p.tables e below K (T17.setTop (mkF m 30 #[.val (.int q1), .val (.int q2), .val (.int q3), .val (.int q4), .val (.int q5), .val (.int q6), .val (.int tt), .val (.int pp), .unset, .unset, .unset, .unset, .unset] [(.int q5), (.int pp), .null, (.int tt), (.ref b17), (.ref b17)]))
  refine own_by (fun t k => XS.iload X17.here hx rfl (hb hby at_30) rfl k) ?_
  show own_Go p.tables e below K (T17.setTop (mkF m 32 #[.val (.int q1), .val (.int q2), .val (.int q3), .val (.int q4), .val (.int q5), .val (.int q6), .val (.int tt), .val (.int pp), .unset, .unset, .unset, .unset, .unset] [(.int q6), (.int q5), (.int pp), .null, (.int tt), (.ref b17), (.ref b17)]))
  obtain ⟨_, _, ⟨T18, L18, k18, n18⟩, -, X18, ⟨Lc18, hQ18, l18, y18, z18⟩, st18⟩ := X17.specialBack hx (y := (⟨"com/example/deliberate_session/deliberatesession/mapping/ColumnDescription", "<init>", "(ILjava/lang/String;III)V"⟩ : MethodName)) rfl hown (mvT hZ (hw _ (List.mem_of_getElem? (i := 10) rfl))) (mvT hZ (hw _ (List.mem_of_getElem? (i := 11) rfl))) (mvT hZ (hw _ (List.mem_of_getElem? (i := 12) rfl))) (by decide) (backOf (W := 1) (own_rmI l Z aw hw [] b17 tt pp q5 q6 h17 n0 Z17 A17 gn_b17 F17_sqlType_b17 F17_typeName_b17 F17_precision_b17 F17_scale_b17 F17_singlePrecisionDigits_b17) hZ (hw _ (List.mem_of_getElem? (i := 12) rfl)) (hw _ (List.mem_of_getElem? (i := 9) rfl)) (by decide) (by decide)) (g := (mkF m 32 #[.val (.int q1), .val (.int q2), .val (.int q3), .val (.int q4), .val (.int q5), .val (.int q6), .val (.int tt), .val (.int pp), .unset, .unset, .unset, .unset, .unset] [(.int q6), (.int q5), (.int pp), .null, (.int tt), (.ref b17), (.ref b17)])) rfl (by rw [hml]; rfl) (Steps.refl _) (a := b17) (argsL := [(.int tt), .null, (.int pp), (.int q5), (.int q6)]) (rest := [(.ref b17)]) (lenOf own_pd3 rfl) rfl (by show 2 * 0 + _ ≤ _; exact Nat.le_of_eq rfl) (hb hby at_32) (fun _ _ => ⟨rfl, e17, (by decide : 1 + 0 ≤ _), (by decide : 5 + 0 ≤ _)⟩)
  dsimp only [Pt.U, Pt.locs, Pt.cells, Pt.slots] at X18 l18 y18 z18 st18 hQ18
  subst l18 y18 z18
  obtain ⟨rfl, N18q, Kp18, Cp18⟩ := hQ18
  have N18 := Fr.app N16 N18q
  refine own_by (fun t k => st18.trans k) ?_
  have Ex18_b17 := A17.keep Kp18
  have Z18 := Nat.le_trans Z17 Kp18.1
  have CC : own_CD Z T18.heap b17 tt pp q6 := Cp18
  show own_Go p.tables e below K (T18.setTop (mkF m 35 #[.val (.int q1), .val (.int q2), .val (.int q3), .val (.int q4), .val (.int q5), .val (.int q6), .val (.int tt), .val (.int pp), .unset, .unset, .unset, .unset, .unset] [(.ref b17)]))
  refine own_by (fun t k => XS.astore X18.here hx rfl (hb hby at_35) rfl rfl (l' := #[.val (.int q1), .val (.int q2), .val (.int q3), .val (.int q4), .val (.int q5), .val (.int q6), .val (.int tt), .val (.int pp), .val (.ref b17), .unset, .unset, .unset, .unset]) rfl k) ?_
  show own_Go p.tables e below K (T18.setTop (mkF m 37 #[.val (.int q1), .val (.int q2), .val (.int q3), .val (.int q4), .val (.int q5), .val (.int q6), .val (.int tt), .val (.int pp), .val (.ref b17), .unset, .unset, .unset, .unset] []))
  refine own_by (fun t k => XS.aload X18.here hx rfl (hb hby at_37) rfl rfl k) ?_
  show own_Go p.tables e below K (T18.setTop (mkF m 39 #[.val (.int q1), .val (.int q2), .val (.int q3), .val (.int q4), .val (.int q5), .val (.int q6), .val (.int tt), .val (.int pp), .val (.ref b17), .unset, .unset, .unset, .unset] [(.ref b17)]))
  obtain ⟨cq19, kq19, q19a, q19b, q19c⟩ := isOf hZ rfl CC.1
  obtain ⟨_, _, ⟨T19, L19, k19, n19⟩, -, X19, ⟨Lc19, hQ19, l19, y19, z19⟩, st19⟩ := X18.virtualBack hx (y := (⟨"com/example/deliberate_session/deliberatesession/mapping/ColumnDescription", "singlePrecision", "()Z"⟩ : MethodName)) (z := (⟨"com/example/deliberate_session/deliberatesession/mapping/ColumnDescription", "singlePrecision", "()Z"⟩ : MethodName)) hown (mvT hZ (hw _ (List.mem_of_getElem? (i := 31) rfl))) (mvT hZ (hw _ (List.mem_of_getElem? (i := 32) rfl))) (notFace_of_selects (args := #[]) (mvT hZ (hw _ (List.mem_of_getElem? (i := 34) rfl)))) (mvT hZ (hw _ (List.mem_of_getElem? (i := 34) rfl))) (mvT hZ (hw _ (List.mem_of_getElem? (i := 33) rfl))) (by decide) (backOf (W := 0) (own_rmsp l Z aw hw [] b17 tt pp q6 T18.heap n0 Z18 CC) hZ (hw _ (List.mem_of_getElem? (i := 35) rfl)) (hw _ (List.mem_of_getElem? (i := 9) rfl)) (by decide) (by decide)) q19a q19c (g := (mkF m 39 #[.val (.int q1), .val (.int q2), .val (.int q3), .val (.int q4), .val (.int q5), .val (.int q6), .val (.int tt), .val (.int pp), .val (.ref b17), .unset, .unset, .unset, .unset] [(.ref b17)])) rfl (by rw [hml]; rfl) (Steps.refl _) (argsL := []) (rest := []) (lenOf own_pd1 rfl) rfl (by show 2 * 0 + _ ≤ _; exact Nat.le_of_eq rfl) (hb hby at_39) (fun _ _ => ⟨rfl, rfl, (by decide : 1 + 0 ≤ _), (by decide : 5 + 0 ≤ _)⟩)
  dsimp only [Pt.U, Pt.locs, Pt.cells, Pt.slots] at X19 l19 y19 z19 st19 hQ19
  subst l19 y19 z19
  obtain ⟨rfl, N19q, e19⟩ := hQ19
  have N19 := Fr.app N18 N19q
  refine own_by (fun t k => st19.trans k) ?_
  show own_Go p.tables e below K (T19.setTop (mkF m 42 #[.val (.int q1), .val (.int q2), .val (.int q3), .val (.int q4), .val (.int q5), .val (.int q6), .val (.int tt), .val (.int pp), .val (.ref b17), .unset, .unset, .unset, .unset] [(.int (own_sp tt pp))]))
  refine own_by (fun t k => XS.istore X19.here hx rfl (hb hby at_42) rfl (l' := #[.val (.int q1), .val (.int q2), .val (.int q3), .val (.int q4), .val (.int q5), .val (.int q6), .val (.int tt), .val (.int pp), .val (.ref b17), .val (.int (own_sp tt pp)), .unset, .unset, .unset]) rfl k) ?_
  have J98 : ∀ (bx : Int32) (s11 s12 : Slot), own_sp tt pp = bx → own_Go p.tables e below K (T19.setTop (mkF m 98 #[.val (.int q1), .val (.int q2), .val (.int q3), .val (.int q4), .val (.int q5), .val (.int q6), .val (.int tt), .val (.int pp), .val (.ref b17), .val (.int (own_sp tt pp)), .val (.int bx), s11, s12] [])) := by
    intro bx s11 s12 hbx
    show own_Go p.tables e below K (T19.setTop (mkF m 98 #[.val (.int q1), .val (.int q2), .val (.int q3), .val (.int q4), .val (.int q5), .val (.int q6), .val (.int tt), .val (.int pp), .val (.ref b17), .val (.int (own_sp tt pp)), .val (.int bx), s11, s12] []))
    refine own_by (fun t k => XS.iload X19.here hx rfl (hb hby at_98) rfl k) ?_
    show own_Go p.tables e below K (T19.setTop (mkF m 100 #[.val (.int q1), .val (.int q2), .val (.int q3), .val (.int q4), .val (.int q5), .val (.int q6), .val (.int tt), .val (.int pp), .val (.ref b17), .val (.int (own_sp tt pp)), .val (.int bx), s11, s12] [(.int (own_sp tt pp))]))
    refine own_by (fun t k => XS.iload X19.here hx rfl (hb hby at_100) rfl k) ?_
    show own_Go p.tables e below K (T19.setTop (mkF m 102 #[.val (.int q1), .val (.int q2), .val (.int q3), .val (.int q4), .val (.int q5), .val (.int q6), .val (.int tt), .val (.int pp), .val (.ref b17), .val (.int (own_sp tt pp)), .val (.int bx), s11, s12] [(.int bx), (.int (own_sp tt pp))]))
    have hc102 : (own_sp tt pp) = bx := hbx
    refine own_by (fun t k => XS.icmpYes X19.here hx rfl (pc0 := 102) (pc' := 107) rfl (hb hby at_102) rfl (teq hc102).1 (by decide) (by decide) k) ?_
    show own_Go p.tables e below K (T19.setTop (mkF m 107 #[.val (.int q1), .val (.int q2), .val (.int q3), .val (.int q4), .val (.int q5), .val (.int q6), .val (.int tt), .val (.int pp), .val (.ref b17), .val (.int (own_sp tt pp)), .val (.int bx), s11, s12] []))
    refine own_by (fun t k => XS.iload X19.here hx rfl (hb hby at_107) rfl k) ?_
    show own_Go p.tables e below K (T19.setTop (mkF m 109 #[.val (.int q1), .val (.int q2), .val (.int q3), .val (.int q4), .val (.int q5), .val (.int q6), .val (.int tt), .val (.int pp), .val (.ref b17), .val (.int (own_sp tt pp)), .val (.int bx), s11, s12] [(.int (own_sp tt pp))]))
    by_cases hc109 : (own_sp tt pp) = (0 : Int32)
    · refine own_by (fun t k => XS.ifYes X19.here hx rfl (pc0 := 109) (pc' := 122) rfl (hb hby at_109) rfl ((if0 _ _).trans (teq hc109).1) (by decide) (by decide) k) ?_
      show own_Go p.tables e below K (T19.setTop (mkF m 122 #[.val (.int q1), .val (.int q2), .val (.int q3), .val (.int q4), .val (.int q5), .val (.int q6), .val (.int tt), .val (.int pp), .val (.ref b17), .val (.int (own_sp tt pp)), .val (.int bx), s11, s12] []))
      refine own_by (fun t k => XS.aload X19.here hx rfl (hb hby at_122) rfl rfl k) ?_
      show own_Go p.tables e below K (T19.setTop (mkF m 124 #[.val (.int q1), .val (.int q2), .val (.int q3), .val (.int q4), .val (.int q5), .val (.int q6), .val (.int tt), .val (.int pp), .val (.ref b17), .val (.int (own_sp tt pp)), .val (.int bx), s11, s12] [(.ref b17)]))
      obtain ⟨cq20, kq20, q20a, q20b, q20c⟩ := isOf hZ e19 CC.1
      obtain ⟨_, _, ⟨T20, L20, k20, n20⟩, -, X20, ⟨Lc20, hQ20, l20, y20, z20⟩, st20⟩ := X19.virtualBack hx (y := (⟨"com/example/deliberate_session/deliberatesession/mapping/ColumnDescription", "digitsReadBack", "()I"⟩ : MethodName)) (z := (⟨"com/example/deliberate_session/deliberatesession/mapping/ColumnDescription", "digitsReadBack", "()I"⟩ : MethodName)) hown (mvT hZ (hw _ (List.mem_of_getElem? (i := 41) rfl))) (mvT hZ (hw _ (List.mem_of_getElem? (i := 42) rfl))) (notFace_of_selects (args := #[]) (mvT hZ (hw _ (List.mem_of_getElem? (i := 44) rfl)))) (mvT hZ (hw _ (List.mem_of_getElem? (i := 44) rfl))) (mvT hZ (hw _ (List.mem_of_getElem? (i := 43) rfl))) (by decide) (backOf (W := 0) (own_rmdb l Z aw hw [] b17 tt pp q6 T18.heap n0 Z18 CC) hZ (hw _ (List.mem_of_getElem? (i := 45) rfl)) (hw _ (List.mem_of_getElem? (i := 9) rfl)) (by decide) (by decide)) q20a q20c (g := (mkF m 124 #[.val (.int q1), .val (.int q2), .val (.int q3), .val (.int q4), .val (.int q5), .val (.int q6), .val (.int tt), .val (.int pp), .val (.ref b17), .val (.int (own_sp tt pp)), .val (.int bx), s11, s12] [(.ref b17)])) rfl (by rw [hml]; rfl) (Steps.refl _) (argsL := []) (rest := []) (lenOf own_pd4 rfl) rfl (by show 2 * 0 + _ ≤ _; exact Nat.le_of_eq rfl) (hb hby at_124) (fun _ _ => ⟨rfl, e19, (by decide : 1 + 0 ≤ _), (by decide : 5 + 0 ≤ _)⟩)
      dsimp only [Pt.U, Pt.locs, Pt.cells, Pt.slots] at X20 l20 y20 z20 st20 hQ20
      subst l20 y20 z20
      obtain ⟨rfl, N20q, e20⟩ := hQ20
      have N20 := Fr.app N19 N20q
      refine own_by (fun t k => st20.trans k) ?_
      show own_Go p.tables e below K (T20.setTop (mkF m 127 #[.val (.int q1), .val (.int q2), .val (.int q3), .val (.int q4), .val (.int q5), .val (.int q6), .val (.int tt), .val (.int pp), .val (.ref b17), .val (.int (own_sp tt pp)), .val (.int bx), s11, s12] [(.int (own_db tt pp q6))]))
      refine own_by (fun t k => XS.iload X20.here hx rfl (hb hby at_127) rfl k) ?_
      show own_Go p.tables e below K (T20.setTop (mkF m 129 #[.val (.int q1), .val (.int q2), .val (.int q3), .val (.int q4), .val (.int q5), .val (.int q6), .val (.int tt), .val (.int pp), .val (.ref b17), .val (.int (own_sp tt pp)), .val (.int bx), s11, s12] [(.int (own_sp tt pp)), (.int (own_db tt pp q6))]))
      have hc129 : (own_sp tt pp) = (0 : Int32) := hc109
      refine own_by (fun t k => XS.ifYes X20.here hx rfl (pc0 := 129) (pc' := 137) rfl (hb hby at_129) rfl ((if0 _ _).trans (teq hc129).1) (by decide) (by decide) k) ?_
      show own_Go p.tables e below K (T20.setTop (mkF m 137 #[.val (.int q1), .val (.int q2), .val (.int q3), .val (.int q4), .val (.int q5), .val (.int q6), .val (.int tt), .val (.int pp), .val (.ref b17), .val (.int (own_sp tt pp)), .val (.int bx), s11, s12] [(.int (own_db tt pp q6))]))
      refine own_by (fun t k => XS.iconst X20.here hx rfl (hb hby at_137) k) ?_
      show own_Go p.tables e below K (T20.setTop (mkF m 138 #[.val (.int q1), .val (.int q2), .val (.int q3), .val (.int q4), .val (.int q5), .val (.int q6), .val (.int tt), .val (.int pp), .val (.ref b17), .val (.int (own_sp tt pp)), .val (.int bx), s11, s12] [(.int (0 : Int32)), (.int (own_db tt pp q6))]))
      have hc138 : (own_db tt pp q6) = (0 : Int32) := by simp [own_db, hc109]
      refine own_by (fun t k => XS.icmpNo X20.here hx rfl (hb hby at_138) rfl (teq hc138).2 k) ?_
      show own_Go p.tables e below K (T20.setTop (mkF m 141 #[.val (.int q1), .val (.int q2), .val (.int q3), .val (.int q4), .val (.int q5), .val (.int q6), .val (.int tt), .val (.int pp), .val (.ref b17), .val (.int (own_sp tt pp)), .val (.int bx), s11, s12] []))
      refine own_by (fun t k => XS.iconst X20.here hx rfl (hb hby at_141) k) ?_
      show own_Go p.tables e below K (T20.setTop (mkF m 142 #[.val (.int q1), .val (.int q2), .val (.int q3), .val (.int q4), .val (.int q5), .val (.int q6), .val (.int tt), .val (.int pp), .val (.ref b17), .val (.int (own_sp tt pp)), .val (.int bx), s11, s12] [(.int (1 : Int32))]))
      refine own_by (fun t k => XS.goto X20.here hx rfl (pc0 := 142) (pc' := 146) rfl (hb hby at_142) (by decide) (by decide) k) ?_
      show own_Go p.tables e below K (T20.setTop (mkF m 146 #[.val (.int q1), .val (.int q2), .val (.int q3), .val (.int q4), .val (.int q5), .val (.int q6), .val (.int tt), .val (.int pp), .val (.ref b17), .val (.int (own_sp tt pp)), .val (.int bx), s11, s12] [(.int (1 : Int32))]))
      exact own_retZ X20 hx (t := .boolean) hret (by simp) (hb hby at_146) (hK (some (.int (1 : Int32))) X20 (fun h => by rw [hret] at h; cases h) (⟨rfl, N20⟩) (by decide) (by decide))
    · refine own_by (fun t k => XS.ifNo X19.here hx rfl (hb hby at_109) rfl ((if0 _ _).trans (feq hc109).1) k) ?_
      show own_Go p.tables e below K (T19.setTop (mkF m 112 #[.val (.int q1), .val (.int q2), .val (.int q3), .val (.int q4), .val (.int q5), .val (.int q6), .val (.int tt), .val (.int pp), .val (.ref b17), .val (.int (own_sp tt pp)), .val (.int bx), s11, s12] []))
      refine own_by (fun t k => XS.aload X19.here hx rfl (hb hby at_112) rfl rfl k) ?_
      show own_Go p.tables e below K (T19.setTop (mkF m 114 #[.val (.int q1), .val (.int q2), .val (.int q3), .val (.int q4), .val (.int q5), .val (.int q6), .val (.int tt), .val (.int pp), .val (.ref b17), .val (.int (own_sp tt pp)), .val (.int bx), s11, s12] [(.ref b17)]))
      obtain ⟨cq21, kq21, q21a, q21b, q21c⟩ := isOf hZ e19 CC.1
      obtain ⟨_, _, ⟨T21, L21, k21, n21⟩, -, X21, ⟨Lc21, hQ21, l21, y21, z21⟩, st21⟩ := X19.virtualBack hx (y := (⟨"com/example/deliberate_session/deliberatesession/mapping/ColumnDescription", "binaryFloatingPoint", "()Z"⟩ : MethodName)) (z := (⟨"com/example/deliberate_session/deliberatesession/mapping/ColumnDescription", "binaryFloatingPoint", "()Z"⟩ : MethodName)) hown (mvT hZ (hw _ (List.mem_of_getElem? (i := 36) rfl))) (mvT hZ (hw _ (List.mem_of_getElem? (i := 37) rfl))) (notFace_of_selects (args := #[]) (mvT hZ (hw _ (List.mem_of_getElem? (i := 39) rfl)))) (mvT hZ (hw _ (List.mem_of_getElem? (i := 39) rfl))) (mvT hZ (hw _ (List.mem_of_getElem? (i := 38) rfl))) (by decide) (backOf (W := 0) (own_rmbf l Z aw hw [] b17 tt pp q6 T18.heap n0 Z18 CC) hZ (hw _ (List.mem_of_getElem? (i := 40) rfl)) (hw _ (List.mem_of_getElem? (i := 9) rfl)) (by decide) (by decide)) q21a q21c (g := (mkF m 114 #[.val (.int q1), .val (.int q2), .val (.int q3), .val (.int q4), .val (.int q5), .val (.int q6), .val (.int tt), .val (.int pp), .val (.ref b17), .val (.int (own_sp tt pp)), .val (.int bx), s11, s12] [(.ref b17)])) rfl (by rw [hml]; rfl) (Steps.refl _) (argsL := []) (rest := []) (lenOf own_pd1 rfl) rfl (by show 2 * 0 + _ ≤ _; exact Nat.le_of_eq rfl) (hb hby at_114) (fun _ _ => ⟨rfl, e19, (by decide : 1 + 0 ≤ _), (by decide : 5 + 0 ≤ _)⟩)
      dsimp only [Pt.U, Pt.locs, Pt.cells, Pt.slots] at X21 l21 y21 z21 st21 hQ21
      subst l21 y21 z21
      obtain ⟨rfl, N21q, e21⟩ := hQ21
      have N21 := Fr.app N19 N21q
      refine own_by (fun t k => st21.trans k) ?_
      show own_Go p.tables e below K (T21.setTop (mkF m 117 #[.val (.int q1), .val (.int q2), .val (.int q3), .val (.int q4), .val (.int q5), .val (.int q6), .val (.int tt), .val (.int pp), .val (.ref b17), .val (.int (own_sp tt pp)), .val (.int bx), s11, s12] [(.int (own_bf tt))]))
      have hc117 : ¬ ((own_bf tt) = (0 : Int32)) := by intro h; revert hc109; unfold own_sp; unfold own_bf at h; split <;> simp_all
      refine own_by (fun t k => XS.ifYes X21.here hx rfl (pc0 := 117) (pc' := 122) rfl (hb hby at_117) rfl ((if0 _ _).trans (feq hc117).2) (by decide) (by decide) k) ?_
      show own_Go p.tables e below K (T21.setTop (mkF m 122 #[.val (.int q1), .val (.int q2), .val (.int q3), .val (.int q4), .val (.int q5), .val (.int q6), .val (.int tt), .val (.int pp), .val (.ref b17), .val (.int (own_sp tt pp)), .val (.int bx), s11, s12] []))
      refine own_by (fun t k => XS.aload X21.here hx rfl (hb hby at_122) rfl rfl k) ?_
      show own_Go p.tables e below K (T21.setTop (mkF m 124 #[.val (.int q1), .val (.int q2), .val (.int q3), .val (.int q4), .val (.int q5), .val (.int q6), .val (.int tt), .val (.int pp), .val (.ref b17), .val (.int (own_sp tt pp)), .val (.int bx), s11, s12] [(.ref b17)]))
      obtain ⟨cq22, kq22, q22a, q22b, q22c⟩ := isOf hZ e21 CC.1
      obtain ⟨_, _, ⟨T22, L22, k22, n22⟩, -, X22, ⟨Lc22, hQ22, l22, y22, z22⟩, st22⟩ := X21.virtualBack hx (y := (⟨"com/example/deliberate_session/deliberatesession/mapping/ColumnDescription", "digitsReadBack", "()I"⟩ : MethodName)) (z := (⟨"com/example/deliberate_session/deliberatesession/mapping/ColumnDescription", "digitsReadBack", "()I"⟩ : MethodName)) hown (mvT hZ (hw _ (List.mem_of_getElem? (i := 41) rfl))) (mvT hZ (hw _ (List.mem_of_getElem? (i := 42) rfl))) (notFace_of_selects (args := #[]) (mvT hZ (hw _ (List.mem_of_getElem? (i := 44) rfl)))) (mvT hZ (hw _ (List.mem_of_getElem? (i := 44) rfl))) (mvT hZ (hw _ (List.mem_of_getElem? (i := 43) rfl))) (by decide) (backOf (W := 0) (own_rmdb l Z aw hw [] b17 tt pp q6 T18.heap n0 Z18 CC) hZ (hw _ (List.mem_of_getElem? (i := 45) rfl)) (hw _ (List.mem_of_getElem? (i := 9) rfl)) (by decide) (by decide)) q22a q22c (g := (mkF m 124 #[.val (.int q1), .val (.int q2), .val (.int q3), .val (.int q4), .val (.int q5), .val (.int q6), .val (.int tt), .val (.int pp), .val (.ref b17), .val (.int (own_sp tt pp)), .val (.int bx), s11, s12] [(.ref b17)])) rfl (by rw [hml]; rfl) (Steps.refl _) (argsL := []) (rest := []) (lenOf own_pd4 rfl) rfl (by show 2 * 0 + _ ≤ _; exact Nat.le_of_eq rfl) (hb hby at_124) (fun _ _ => ⟨rfl, e21, (by decide : 1 + 0 ≤ _), (by decide : 5 + 0 ≤ _)⟩)
      dsimp only [Pt.U, Pt.locs, Pt.cells, Pt.slots] at X22 l22 y22 z22 st22 hQ22
      subst l22 y22 z22
      obtain ⟨rfl, N22q, e22⟩ := hQ22
      have N22 := Fr.app N21 N22q
      refine own_by (fun t k => st22.trans k) ?_
      show own_Go p.tables e below K (T22.setTop (mkF m 127 #[.val (.int q1), .val (.int q2), .val (.int q3), .val (.int q4), .val (.int q5), .val (.int q6), .val (.int tt), .val (.int pp), .val (.ref b17), .val (.int (own_sp tt pp)), .val (.int bx), s11, s12] [(.int (own_db tt pp q6))]))
      refine own_by (fun t k => XS.iload X22.here hx rfl (hb hby at_127) rfl k) ?_
      show own_Go p.tables e below K (T22.setTop (mkF m 129 #[.val (.int q1), .val (.int q2), .val (.int q3), .val (.int q4), .val (.int q5), .val (.int q6), .val (.int tt), .val (.int pp), .val (.ref b17), .val (.int (own_sp tt pp)), .val (.int bx), s11, s12] [(.int (own_sp tt pp)), (.int (own_db tt pp q6))]))
      have hc129 : ¬ ((own_sp tt pp) = (0 : Int32)) := hc109
      refine own_by (fun t k => XS.ifNo X22.here hx rfl (hb hby at_129) rfl ((if0 _ _).trans (feq hc129).1) k) ?_
      show own_Go p.tables e below K (T22.setTop (mkF m 132 #[.val (.int q1), .val (.int q2), .val (.int q3), .val (.int q4), .val (.int q5), .val (.int q6), .val (.int tt), .val (.int pp), .val (.ref b17), .val (.int (own_sp tt pp)), .val (.int bx), s11, s12] [(.int (own_db tt pp q6))]))
      refine own_by (fun t k => XS.iload X22.here hx rfl (hb hby at_132) rfl k) ?_
      show own_Go p.tables e below K (T22.setTop (mkF m 134 #[.val (.int q1), .val (.int q2), .val (.int q3), .val (.int q4), .val (.int q5), .val (.int q6), .val (.int tt), .val (.int pp), .val (.ref b17), .val (.int (own_sp tt pp)), .val (.int bx), s11, s12] [(.int q6), (.int (own_db tt pp q6))]))
      refine own_by (fun t k => XS.goto X22.here hx rfl (pc0 := 134) (pc' := 138) rfl (hb hby at_134) (by decide) (by decide) k) ?_
      show own_Go p.tables e below K (T22.setTop (mkF m 138 #[.val (.int q1), .val (.int q2), .val (.int q3), .val (.int q4), .val (.int q5), .val (.int q6), .val (.int tt), .val (.int pp), .val (.ref b17), .val (.int (own_sp tt pp)), .val (.int bx), s11, s12] [(.int q6), (.int (own_db tt pp q6))]))
      have hc138 : (own_db tt pp q6) = q6 := by simp [own_db, hc109]
      refine own_by (fun t k => XS.icmpNo X22.here hx rfl (hb hby at_138) rfl (teq hc138).2 k) ?_
      show own_Go p.tables e below K (T22.setTop (mkF m 141 #[.val (.int q1), .val (.int q2), .val (.int q3), .val (.int q4), .val (.int q5), .val (.int q6), .val (.int tt), .val (.int pp), .val (.ref b17), .val (.int (own_sp tt pp)), .val (.int bx), s11, s12] []))
      refine own_by (fun t k => XS.iconst X22.here hx rfl (hb hby at_141) k) ?_
      show own_Go p.tables e below K (T22.setTop (mkF m 142 #[.val (.int q1), .val (.int q2), .val (.int q3), .val (.int q4), .val (.int q5), .val (.int q6), .val (.int tt), .val (.int pp), .val (.ref b17), .val (.int (own_sp tt pp)), .val (.int bx), s11, s12] [(.int (1 : Int32))]))
      refine own_by (fun t k => XS.goto X22.here hx rfl (pc0 := 142) (pc' := 146) rfl (hb hby at_142) (by decide) (by decide) k) ?_
      show own_Go p.tables e below K (T22.setTop (mkF m 146 #[.val (.int q1), .val (.int q2), .val (.int q3), .val (.int q4), .val (.int q5), .val (.int q6), .val (.int tt), .val (.int pp), .val (.ref b17), .val (.int (own_sp tt pp)), .val (.int bx), s11, s12] [(.int (1 : Int32))]))
      exact own_retZ X22 hx (t := .boolean) hret (by simp) (hb hby at_146) (hK (some (.int (1 : Int32))) X22 (fun h => by rw [hret] at h; cases h) (⟨rfl, N22⟩) (by decide) (by decide))
  show own_Go p.tables e below K (T19.setTop (mkF m 44 #[.val (.int q1), .val (.int q2), .val (.int q3), .val (.int q4), .val (.int q5), .val (.int q6), .val (.int tt), .val (.int pp), .val (.ref b17), .val (.int (own_sp tt pp)), .unset, .unset, .unset] []))
  refine own_by (fun t k => XS.iload X19.here hx rfl (hb hby at_44) rfl k) ?_
  show own_Go p.tables e below K (T19.setTop (mkF m 46 #[.val (.int q1), .val (.int q2), .val (.int q3), .val (.int q4), .val (.int q5), .val (.int q6), .val (.int tt), .val (.int pp), .val (.ref b17), .val (.int (own_sp tt pp)), .unset, .unset, .unset] [(.int tt)]))
  refine own_by (fun t k => XS.bipush X19.here hx rfl (hb hby at_46) k) ?_
  show own_Go p.tables e below K (T19.setTop (mkF m 48 #[.val (.int q1), .val (.int q2), .val (.int q3), .val (.int q4), .val (.int q5), .val (.int q6), .val (.int tt), .val (.int pp), .val (.ref b17), .val (.int (own_sp tt pp)), .unset, .unset, .unset] [(.int (7 : Int32)), (.int tt)]))
  by_cases hc48 : tt = (7 : Int32)
  · refine own_by (fun t k => XS.icmpNo X19.here hx rfl (hb hby at_48) rfl (teq hc48).2 k) ?_
    show own_Go p.tables e below K (T19.setTop (mkF m 51 #[.val (.int q1), .val (.int q2), .val (.int q3), .val (.int q4), .val (.int q5), .val (.int q6), .val (.int tt), .val (.int pp), .val (.ref b17), .val (.int (own_sp tt pp)), .unset, .unset, .unset] []))
    refine own_by (fun t k => XS.iconst X19.here hx rfl (hb hby at_51) k) ?_
    show own_Go p.tables e below K (T19.setTop (mkF m 52 #[.val (.int q1), .val (.int q2), .val (.int q3), .val (.int q4), .val (.int q5), .val (.int q6), .val (.int tt), .val (.int pp), .val (.ref b17), .val (.int (own_sp tt pp)), .unset, .unset, .unset] [(.int (1 : Int32))]))
    refine own_by (fun t k => XS.istore X19.here hx rfl (hb hby at_52) rfl (l' := #[.val (.int q1), .val (.int q2), .val (.int q3), .val (.int q4), .val (.int q5), .val (.int q6), .val (.int tt), .val (.int pp), .val (.ref b17), .val (.int (own_sp tt pp)), .val (.int (1 : Int32)), .unset, .unset]) rfl k) ?_
    show own_Go p.tables e below K (T19.setTop (mkF m 54 #[.val (.int q1), .val (.int q2), .val (.int q3), .val (.int q4), .val (.int q5), .val (.int q6), .val (.int tt), .val (.int pp), .val (.ref b17), .val (.int (own_sp tt pp)), .val (.int (1 : Int32)), .unset, .unset] []))
    refine own_by (fun t k => XS.goto X19.here hx rfl (pc0 := 54) (pc' := 98) rfl (hb hby at_54) (by decide) (by decide) k) ?_
    exact J98 (1 : Int32) _ _ (by first | exact own_s7 hc48 | exact own_sa hc48 hc73 | exact own_sb hc48 hc82 | exact own_sc hc61 hc73 hc82 | exact own_sn hc48 hc61)
  · refine own_by (fun t k => XS.icmpYes X19.here hx rfl (pc0 := 48) (pc' := 57) rfl (hb hby at_48) rfl (feq hc48).2 (by decide) (by decide) k) ?_
    show own_Go p.tables e below K (T19.setTop (mkF m 57 #[.val (.int q1), .val (.int q2), .val (.int q3), .val (.int q4), .val (.int q5), .val (.int q6), .val (.int tt), .val (.int pp), .val (.ref b17), .val (.int (own_sp tt pp)), .unset, .unset, .unset] []))
    refine own_by (fun t k => XS.iload X19.here hx rfl (hb hby at_57) rfl k) ?_
    show own_Go p.tables e below K (T19.setTop (mkF m 59 #[.val (.int q1), .val (.int q2), .val (.int q3), .val (.int q4), .val (.int q5), .val (.int q6), .val (.int tt), .val (.int pp), .val (.ref b17), .val (.int (own_sp tt pp)), .unset, .unset, .unset] [(.int tt)]))
    refine own_by (fun t k => XS.bipush X19.here hx rfl (hb hby at_59) k) ?_
    show own_Go p.tables e below K (T19.setTop (mkF m 61 #[.val (.int q1), .val (.int q2), .val (.int q3), .val (.int q4), .val (.int q5), .val (.int q6), .val (.int tt), .val (.int pp), .val (.ref b17), .val (.int (own_sp tt pp)), .unset, .unset, .unset] [(.int (6 : Int32)), (.int tt)]))
    by_cases hc61 : tt = (6 : Int32)
    · refine own_by (fun t k => XS.icmpNo X19.here hx rfl (hb hby at_61) rfl (teq hc61).2 k) ?_
      show own_Go p.tables e below K (T19.setTop (mkF m 64 #[.val (.int q1), .val (.int q2), .val (.int q3), .val (.int q4), .val (.int q5), .val (.int q6), .val (.int tt), .val (.int pp), .val (.ref b17), .val (.int (own_sp tt pp)), .unset, .unset, .unset] []))
      refine own_by (fun t k => XS.iload X19.here hx rfl (hb hby at_64) rfl k) ?_
      show own_Go p.tables e below K (T19.setTop (mkF m 66 #[.val (.int q1), .val (.int q2), .val (.int q3), .val (.int q4), .val (.int q5), .val (.int q6), .val (.int tt), .val (.int pp), .val (.ref b17), .val (.int (own_sp tt pp)), .unset, .unset, .unset] [(.int pp)]))
      refine own_by (fun t k => XS.i2l X19.here hx rfl (hb hby at_66) rfl k) ?_
      show own_Go p.tables e below K (T19.setTop (mkF m 67 #[.val (.int q1), .val (.int q2), .val (.int q3), .val (.int q4), .val (.int q5), .val (.int q6), .val (.int tt), .val (.int pp), .val (.ref b17), .val (.int (own_sp tt pp)), .unset, .unset, .unset] [(.long (pp.toInt64))]))
      refine own_by (fun t k => XS.lstore X19.here hx rfl (hb hby at_67) rfl (l' := #[.val (.int q1), .val (.int q2), .val (.int q3), .val (.int q4), .val (.int q5), .val (.int q6), .val (.int tt), .val (.int pp), .val (.ref b17), .val (.int (own_sp tt pp)), .unset, .val (.long (pp.toInt64)), .second]) rfl k) ?_
      show own_Go p.tables e below K (T19.setTop (mkF m 69 #[.val (.int q1), .val (.int q2), .val (.int q3), .val (.int q4), .val (.int q5), .val (.int q6), .val (.int tt), .val (.int pp), .val (.ref b17), .val (.int (own_sp tt pp)), .unset, .val (.long (pp.toInt64)), .second] []))
      refine own_by (fun t k => XS.lload X19.here hx rfl (hb hby at_69) rfl k) ?_
      show own_Go p.tables e below K (T19.setTop (mkF m 71 #[.val (.int q1), .val (.int q2), .val (.int q3), .val (.int q4), .val (.int q5), .val (.int q6), .val (.int tt), .val (.int pp), .val (.ref b17), .val (.int (own_sp tt pp)), .unset, .val (.long (pp.toInt64)), .second] [(.long (pp.toInt64))]))
      refine own_by (fun t k => XS.lconst X19.here hx rfl (hb hby at_71) k) ?_
      show own_Go p.tables e below K (T19.setTop (mkF m 72 #[.val (.int q1), .val (.int q2), .val (.int q3), .val (.int q4), .val (.int q5), .val (.int q6), .val (.int tt), .val (.int pp), .val (.ref b17), .val (.int (own_sp tt pp)), .unset, .val (.long (pp.toInt64)), .second] [(.long (1 : Int64)), (.long (pp.toInt64))]))
      refine own_by (fun t k => XS.lcmp X19.here hx rfl (hb hby at_72) rfl k) ?_
      show own_Go p.tables e below K (T19.setTop (mkF m 73 #[.val (.int q1), .val (.int q2), .val (.int q3), .val (.int q4), .val (.int q5), .val (.int q6), .val (.int tt), .val (.int pp), .val (.ref b17), .val (.int (own_sp tt pp)), .unset, .val (.long (pp.toInt64)), .second] [(.int (lcmpW (pp.toInt64) (1 : Int64)))]))
      by_cases hc73 : (pp.toInt64) < (1 : Int64)
      · refine own_by (fun t k => XS.ifYes X19.here hx rfl (pc0 := 73) (pc' := 89) rfl (hb hby at_73) rfl (own_llt hc73).1 (by decide) (by decide) k) ?_
        show own_Go p.tables e below K (T19.setTop (mkF m 89 #[.val (.int q1), .val (.int q2), .val (.int q3), .val (.int q4), .val (.int q5), .val (.int q6), .val (.int tt), .val (.int pp), .val (.ref b17), .val (.int (own_sp tt pp)), .unset, .val (.long (pp.toInt64)), .second] []))
        refine own_by (fun t k => XS.iconst X19.here hx rfl (hb hby at_89) k) ?_
        show own_Go p.tables e below K (T19.setTop (mkF m 90 #[.val (.int q1), .val (.int q2), .val (.int q3), .val (.int q4), .val (.int q5), .val (.int q6), .val (.int tt), .val (.int pp), .val (.ref b17), .val (.int (own_sp tt pp)), .unset, .val (.long (pp.toInt64)), .second] [(.int (0 : Int32))]))
        refine own_by (fun t k => XS.istore X19.here hx rfl (hb hby at_90) rfl (l' := #[.val (.int q1), .val (.int q2), .val (.int q3), .val (.int q4), .val (.int q5), .val (.int q6), .val (.int tt), .val (.int pp), .val (.ref b17), .val (.int (own_sp tt pp)), .val (.int (0 : Int32)), .val (.long (pp.toInt64)), .second]) rfl k) ?_
        show own_Go p.tables e below K (T19.setTop (mkF m 92 #[.val (.int q1), .val (.int q2), .val (.int q3), .val (.int q4), .val (.int q5), .val (.int q6), .val (.int tt), .val (.int pp), .val (.ref b17), .val (.int (own_sp tt pp)), .val (.int (0 : Int32)), .val (.long (pp.toInt64)), .second] []))
        refine own_by (fun t k => XS.goto X19.here hx rfl (pc0 := 92) (pc' := 98) rfl (hb hby at_92) (by decide) (by decide) k) ?_
        exact J98 (0 : Int32) _ _ (by first | exact own_s7 hc48 | exact own_sa hc48 hc73 | exact own_sb hc48 hc82 | exact own_sc hc61 hc73 hc82 | exact own_sn hc48 hc61)
      · refine own_by (fun t k => XS.ifNo X19.here hx rfl (hb hby at_73) rfl (own_lge hc73).1 k) ?_
        show own_Go p.tables e below K (T19.setTop (mkF m 76 #[.val (.int q1), .val (.int q2), .val (.int q3), .val (.int q4), .val (.int q5), .val (.int q6), .val (.int tt), .val (.int pp), .val (.ref b17), .val (.int (own_sp tt pp)), .unset, .val (.long (pp.toInt64)), .second] []))
        refine own_by (fun t k => XS.lload X19.here hx rfl (hb hby at_76) rfl k) ?_
        show own_Go p.tables e below K (T19.setTop (mkF m 78 #[.val (.int q1), .val (.int q2), .val (.int q3), .val (.int q4), .val (.int q5), .val (.int q6), .val (.int tt), .val (.int pp), .val (.ref b17), .val (.int (own_sp tt pp)), .unset, .val (.long (pp.toInt64)), .second] [(.long (pp.toInt64))]))
        refine own_by (fun t k => X19.ldc2Long hx hown (mvT hZ (hw _ (List.mem_of_getElem? (i := 47) rfl))) (g := (mkF m 78 #[.val (.int q1), .val (.int q2), .val (.int q3), .val (.int q4), .val (.int q5), .val (.int q6), .val (.int tt), .val (.int pp), .val (.ref b17), .val (.int (own_sp tt pp)), .unset, .val (.long (pp.toInt64)), .second] [(.long (pp.toInt64))])) rfl (hb hby at_78) _ k) ?_
        show own_Go p.tables e below K (T19.setTop (mkF m 81 #[.val (.int q1), .val (.int q2), .val (.int q3), .val (.int q4), .val (.int q5), .val (.int q6), .val (.int tt), .val (.int pp), .val (.ref b17), .val (.int (own_sp tt pp)), .unset, .val (.long (pp.toInt64)), .second] [(.long (24 : Int64)), (.long (pp.toInt64))]))
        refine own_by (fun t k => XS.lcmp X19.here hx rfl (hb hby at_81) rfl k) ?_
        show own_Go p.tables e below K (T19.setTop (mkF m 82 #[.val (.int q1), .val (.int q2), .val (.int q3), .val (.int q4), .val (.int q5), .val (.int q6), .val (.int tt), .val (.int pp), .val (.ref b17), .val (.int (own_sp tt pp)), .unset, .val (.long (pp.toInt64)), .second] [(.int (lcmpW (pp.toInt64) (24 : Int64)))]))
        by_cases hc82 : (24 : Int64) < (pp.toInt64)
        · refine own_by (fun t k => XS.ifYes X19.here hx rfl (pc0 := 82) (pc' := 89) rfl (hb hby at_82) rfl (own_lgt hc82).1 (by decide) (by decide) k) ?_
          show own_Go p.tables e below K (T19.setTop (mkF m 89 #[.val (.int q1), .val (.int q2), .val (.int q3), .val (.int q4), .val (.int q5), .val (.int q6), .val (.int tt), .val (.int pp), .val (.ref b17), .val (.int (own_sp tt pp)), .unset, .val (.long (pp.toInt64)), .second] []))
          refine own_by (fun t k => XS.iconst X19.here hx rfl (hb hby at_89) k) ?_
          show own_Go p.tables e below K (T19.setTop (mkF m 90 #[.val (.int q1), .val (.int q2), .val (.int q3), .val (.int q4), .val (.int q5), .val (.int q6), .val (.int tt), .val (.int pp), .val (.ref b17), .val (.int (own_sp tt pp)), .unset, .val (.long (pp.toInt64)), .second] [(.int (0 : Int32))]))
          refine own_by (fun t k => XS.istore X19.here hx rfl (hb hby at_90) rfl (l' := #[.val (.int q1), .val (.int q2), .val (.int q3), .val (.int q4), .val (.int q5), .val (.int q6), .val (.int tt), .val (.int pp), .val (.ref b17), .val (.int (own_sp tt pp)), .val (.int (0 : Int32)), .val (.long (pp.toInt64)), .second]) rfl k) ?_
          show own_Go p.tables e below K (T19.setTop (mkF m 92 #[.val (.int q1), .val (.int q2), .val (.int q3), .val (.int q4), .val (.int q5), .val (.int q6), .val (.int tt), .val (.int pp), .val (.ref b17), .val (.int (own_sp tt pp)), .val (.int (0 : Int32)), .val (.long (pp.toInt64)), .second] []))
          refine own_by (fun t k => XS.goto X19.here hx rfl (pc0 := 92) (pc' := 98) rfl (hb hby at_92) (by decide) (by decide) k) ?_
          exact J98 (0 : Int32) _ _ (by first | exact own_s7 hc48 | exact own_sa hc48 hc73 | exact own_sb hc48 hc82 | exact own_sc hc61 hc73 hc82 | exact own_sn hc48 hc61)
        · refine own_by (fun t k => XS.ifNo X19.here hx rfl (hb hby at_82) rfl (own_lle hc82).1 k) ?_
          show own_Go p.tables e below K (T19.setTop (mkF m 85 #[.val (.int q1), .val (.int q2), .val (.int q3), .val (.int q4), .val (.int q5), .val (.int q6), .val (.int tt), .val (.int pp), .val (.ref b17), .val (.int (own_sp tt pp)), .unset, .val (.long (pp.toInt64)), .second] []))
          refine own_by (fun t k => XS.iconst X19.here hx rfl (hb hby at_85) k) ?_
          show own_Go p.tables e below K (T19.setTop (mkF m 86 #[.val (.int q1), .val (.int q2), .val (.int q3), .val (.int q4), .val (.int q5), .val (.int q6), .val (.int tt), .val (.int pp), .val (.ref b17), .val (.int (own_sp tt pp)), .unset, .val (.long (pp.toInt64)), .second] [(.int (1 : Int32))]))
          refine own_by (fun t k => XS.goto X19.here hx rfl (pc0 := 86) (pc' := 90) rfl (hb hby at_86) (by decide) (by decide) k) ?_
          show own_Go p.tables e below K (T19.setTop (mkF m 90 #[.val (.int q1), .val (.int q2), .val (.int q3), .val (.int q4), .val (.int q5), .val (.int q6), .val (.int tt), .val (.int pp), .val (.ref b17), .val (.int (own_sp tt pp)), .unset, .val (.long (pp.toInt64)), .second] [(.int (1 : Int32))]))
          refine own_by (fun t k => XS.istore X19.here hx rfl (hb hby at_90) rfl (l' := #[.val (.int q1), .val (.int q2), .val (.int q3), .val (.int q4), .val (.int q5), .val (.int q6), .val (.int tt), .val (.int pp), .val (.ref b17), .val (.int (own_sp tt pp)), .val (.int (1 : Int32)), .val (.long (pp.toInt64)), .second]) rfl k) ?_
          show own_Go p.tables e below K (T19.setTop (mkF m 92 #[.val (.int q1), .val (.int q2), .val (.int q3), .val (.int q4), .val (.int q5), .val (.int q6), .val (.int tt), .val (.int pp), .val (.ref b17), .val (.int (own_sp tt pp)), .val (.int (1 : Int32)), .val (.long (pp.toInt64)), .second] []))
          refine own_by (fun t k => XS.goto X19.here hx rfl (pc0 := 92) (pc' := 98) rfl (hb hby at_92) (by decide) (by decide) k) ?_
          exact J98 (1 : Int32) _ _ (by first | exact own_s7 hc48 | exact own_sa hc48 hc73 | exact own_sb hc48 hc82 | exact own_sc hc61 hc73 hc82 | exact own_sn hc48 hc61)
    · refine own_by (fun t k => XS.icmpYes X19.here hx rfl (pc0 := 61) (pc' := 95) rfl (hb hby at_61) rfl (feq hc61).2 (by decide) (by decide) k) ?_
      show own_Go p.tables e below K (T19.setTop (mkF m 95 #[.val (.int q1), .val (.int q2), .val (.int q3), .val (.int q4), .val (.int q5), .val (.int q6), .val (.int tt), .val (.int pp), .val (.ref b17), .val (.int (own_sp tt pp)), .unset, .unset, .unset] []))
      refine own_by (fun t k => XS.iconst X19.here hx rfl (hb hby at_95) k) ?_
      show own_Go p.tables e below K (T19.setTop (mkF m 96 #[.val (.int q1), .val (.int q2), .val (.int q3), .val (.int q4), .val (.int q5), .val (.int q6), .val (.int tt), .val (.int pp), .val (.ref b17), .val (.int (own_sp tt pp)), .unset, .unset, .unset] [(.int (0 : Int32))]))
      refine own_by (fun t k => XS.istore X19.here hx rfl (hb hby at_96) rfl (l' := #[.val (.int q1), .val (.int q2), .val (.int q3), .val (.int q4), .val (.int q5), .val (.int q6), .val (.int tt), .val (.int pp), .val (.ref b17), .val (.int (own_sp tt pp)), .val (.int (0 : Int32)), .unset, .unset]) rfl k) ?_
      exact J98 (0 : Int32) _ _ (by first | exact own_s7 hc48 | exact own_sa hc48 hc73 | exact own_sb hc48 hc82 | exact own_sc hc61 hc73 hc82 | exact own_sn hc48 hc61)
set_option maxRecDepth 65536 in
set_option maxHeartbeats 40000000 in
theorem own_comes {Post : Tables → Env → Array Value → State → Outcome → State → Prop} (hpost : ∀ tb e args s v u, (limb_1_1.after args s (.returned v) u = true ∧ limb_1_2.after args s (.returned v) u = true ∧ True) → FrameEnd s (.returned v) u (Jvm.fieldLocs frame_1_writes args s ++ Jvm.arrayLocs frame_1_arrays args s ++ Jvm.staticLocs frame_1_statics s) 16 128 → Post tb e args s (.returned v) u) :
    ArmFor flags0 classFile x code maxLocals ret World_1 tables_1 room_1 Calls_1 rest_1 Pre_1 Post := by
  intro l hfl _ _ p e ha hc hk s m args below hf hA hF happ hP
  obtain ⟨hcalls, hrest, hpre⟩ := hP
  obtain ⟨-, -, -, hnamed, -, -, -, hat⟩ := (Spec.applies_iff hf).mp happ
  obtain ⟨hg, hn⟩ := and_e (Cond.before_iff.mp (show (Jvm.Cond.and given_1 narrow_1).before args s = true from hpre))
  obtain ⟨hcount, g0⟩ := and_e hg
  obtain ⟨a0, g1⟩ := and_e g0
  obtain ⟨a1, g2⟩ := and_e g1
  obtain ⟨a2, g3⟩ := and_e g2
  obtain ⟨a3, g4⟩ := and_e g3
  obtain ⟨a4, g5⟩ := and_e g4
  obtain ⟨w0, w1, w2, w3, w4, w5, rfl⟩ : ∃ w0 w1 w2 w3 w4 w5 : Value, args = #[w0, w1, w2, w3, w4, w5] := by
    have hs : args.size = 6 := by simpa [Cond.value, given_1] using hcount
    obtain ⟨L⟩ := args
    match L, hs with
    | [w0, w1, w2, w3, w4, w5], _ => exact ⟨w0, w1, w2, w3, w4, w5, rfl⟩
  have hw := fun d (hd : d ∈ tables_1) => atoms_spec (ws := Jvm.Cond.code x code maxLocals ret :: tables_1) hat d (List.mem_cons_of_mem _ hd)
  have hfit : Fit s := fun {y c} hc i hi => by
    obtain ⟨ha, rfl⟩ := Array.getElem?_eq_some_iff.mp hc
    have q := List.all_eq_true.mp ((Array.all_eq_true_iff_forall_mem.mp hF) _ (Array.getElem_mem ha)) i (List.mem_range.mpr hi)
    simpa [Array.getElem?_eq_getElem hi] using q
  obtain ⟨i0, ei0⟩ := is_v a0
  obtain rfl : w0 = (.int i0) := Option.some.inj ei0
  obtain ⟨i1, ei1⟩ := is_v a1
  obtain rfl : w1 = (.int i1) := Option.some.inj ei1
  obtain ⟨i2, ei2⟩ := is_v a2
  obtain rfl : w2 = (.int i2) := Option.some.inj ei2
  obtain ⟨i3, ei3⟩ := is_v a3
  obtain rfl : w3 = (.int i3) := Option.some.inj ei3
  obtain ⟨i4, ei4⟩ := is_v a4
  obtain rfl : w4 = (.int i4) := Option.some.inj ei4
  obtain ⟨i5, ei5⟩ := is_v g5
  obtain rfl : w5 = (.int i5) := Option.some.inj ei5
  obtain ⟨n, o, h1, h2, h3, _, L, rfl, ⟨rfl, N⟩, hq⟩ := own_rm0 l s _ hw tables_1 i0 i1 i2 i3 i4 i5 s.heap s.heap.size (Nat.le_refl _)  p e ha hc hk s m _ below hf ((Spec.applies_iff_loose hf).mp happ).1 ⟨rfl, State.Warmed39.refl s, rfl⟩ trivial
  refine ⟨n, _, h1, h2, h3, hpost _ _ _ _ _ _ ⟨Cond.after_iff.mpr rfl, Cond.after_iff.mpr (eq_i res_at (Term.int_eval (1)) rfl), trivial⟩ ⟨hq.1, hq.2.1, (hq.2.2.sift fun y hy => Or.inr (N y hy)).mono (by decide) (by decide)⟩⟩
theorem main_1_1 : Claimed_1_1 := own_comes fun _ _ _ _ _ _ h hF => ⟨h.1, hF⟩
theorem main_1_2 : Claimed_1_2 := own_comes fun _ _ _ _ _ _ h hF => ⟨h.2.1, hF⟩
end Jvm.Pilot.@@N@@
namespace Jvm.Pilot.@@N@@
open Jvm Jvm.ClassFile Sem Op Lib Jvm.Free Jvm.Stand Jvm.Pilot.@@N@@.Jvm.D
/-! MADE BY PROGRAM (witnessworld.py) out of the Statement's table words and the real class files: 10 classes; the members and pool entries that the words name. The judged class is class 1, her method 3. -/
namespace start1
open Jvm.ClassFile
def u (s : String) : CpInfo := .utf8 (stringToUtf16 s)
/-- a pool by its gaps: so many unusable entries, then the entry; so many at the end -/
def gap : Nat → List CpInfo → List CpInfo
  | 0, r => r
  | n + 1, r => .unusable :: gap n r
def poolList (es : List (Nat × CpInfo)) (last : Nat) : List CpInfo := es.foldr (fun e r => gap e.1 (e.2 :: r)) (gap last [])
def pool (es : List (Nat × CpInfo)) (last : Nat) : Array CpInfo := ⟨poolList es last⟩
def fileOf (pool : Array CpInfo) (this : Nat) (attrs : Array Attribute := #[]) (ms : Array MethodInfo := #[]) (fl : Nat := 33) (sup : Nat := 0) (ifs : Array Nat := #[]) (fds : Array FieldInfo := #[]) : ClassFile where
  minorVersion := 0
  majorVersion := 65
  constantPool := pool
  accessFlags := fl
  thisClass := this
  superClass := sup
  interfaces := ifs
  fields := fds
  methods := ms
  attributes := attrs
def plain (name : String) (sup : Option ClassId) : Class where
  name := name
  kind := .ordinary
  loader := none
  accessFlags := 33
  super := sup
  interfaces := #[]
  cf := none
  fields := #[]
  methods := #[]
  instanceTypes := #[]
  staticTypes := #[]
  resolved := #[]
  callSites := []
  init := .initialized
  statics := none
  mirror := none

def pool0 : Array CpInfo := pool [(5, u "<init>"), (0, u "()V"), (1, .class_ 10), (1, u "java/lang/Object")] 113

def k0c0 : Code := { maxStack := 0, maxLocals := 1, code := object_method_1_code, exceptionTable := #[], attributes := #[] }
def k0m0 : Method := { name := "<init>", desc := "()V", sig := { parameters := [], returnType := none }, accessFlags := 1, code := some k0c0 }
/-- java/lang/Object -/
def k0 : Class := { plain "java/lang/Object" none with
  accessFlags := 33
  interfaces := #[]
  cf := some (fileOf pool0 8 #[] #[{ accessFlags := 1, nameIndex := 5, descriptorIndex := 6, attributes := #[] }] 33 0 #[] #[])
  fields := #[]
  methods := #[k0m0]
  instanceTypes := #[]
  staticTypes := #[]
  resolved := Array.replicate 124 none
  statics := none }

def pool1 : Array CpInfo := pool [(2, .class_ 4), (1, u "java/lang/Object"), (0, u "<init>"), (0, u "()V"), (2, .integer 2147483648), (0, .integer 2147483647), (0, .methodref 12 13), (0, .class_ 14), (0, .nameAndType 15 16), (0, u "com/example/deliberate_session/deliberatesession/mapping/ColumnDescriptionSinglePrecisionPinLaw"), (0, u "pickType"), (0, u "(II)I"), (0, .methodref 12 18), (0, .nameAndType 19 16), (0, u "pickPrecision"), (0, .class_ 21), (0, u "com/example/deliberate_session/deliberatesession/mapping/ColumnDescription"), (0, .methodref 20 23), (0, .nameAndType 5 24), (0, u "(ILjava/lang/String;III)V"), (0, .methodref 20 26), (0, .nameAndType 27 28), (0, u "singlePrecision"), (0, u "()Z"), (0, .long 24), (1, .methodref 20 32), (0, .nameAndType 33 28), (0, u "binaryFloatingPoint"), (0, .methodref 20 35), (0, .nameAndType 36 37), (0, u "digitsReadBack"), (0, u "()I"), (3, u "law"), (0, u "(IIIIII)Z")] 2

def k1m0 : Method := { name := "<init>", desc := "()V", sig := { parameters := [], returnType := none }, accessFlags := 1, code := none }
def k1c1 : Code := { maxStack := 2, maxLocals := 2, code := method_2_code, exceptionTable := #[], attributes := #[] }
def k1m1 : Method := { name := "pickType", desc := "(II)I", sig := { parameters := [.int, .int], returnType := some .int }, accessFlags := 10, code := some k1c1 }
def k1c2 : Code := { maxStack := 2, maxLocals := 2, code := method_3_code, exceptionTable := #[], attributes := #[] }
def k1m2 : Method := { name := "pickPrecision", desc := "(II)I", sig := { parameters := [.int, .int], returnType := some .int }, accessFlags := 10, code := some k1c2 }
def k1c3 : Code := { maxStack := 7, maxLocals := 13, code := code, exceptionTable := #[], attributes := #[] }
def k1m3 : Method := { name := "law", desc := "(IIIIII)Z", sig := { parameters := [.int, .int, .int, .int, .int, .int], returnType := some .boolean }, accessFlags := 9, code := some k1c3 }
/-- com/example/deliberate_session/deliberatesession/mapping/ColumnDescriptionSinglePrecisionPinLaw -/
def k1 : Class := { plain "com/example/deliberate_session/deliberatesession/mapping/ColumnDescriptionSinglePrecisionPinLaw" (some 0) with
  accessFlags := 49
  interfaces := #[]
  cf := some (fileOf pool1 12 #[] #[{ accessFlags := 1, nameIndex := 5, descriptorIndex := 6, attributes := #[] }, { accessFlags := 10, nameIndex := 15, descriptorIndex := 16, attributes := #[] }, { accessFlags := 10, nameIndex := 19, descriptorIndex := 16, attributes := #[] }, { accessFlags := 9, nameIndex := 41, descriptorIndex := 42, attributes := #[] }] 49 2 #[] #[])
  fields := #[]
  methods := #[k1m0, k1m1, k1m2, k1m3]
  instanceTypes := #[]
  staticTypes := #[]
  resolved := Array.replicate 45 none
  statics := none }

def pool2 : Array CpInfo := pool [(1, .methodref 2 3), (0, .class_ 4), (0, .nameAndType 5 6), (0, u "java/lang/Object"), (0, u "<init>"), (0, u "()V"), (0, .class_ 8), (0, u "java/lang/Record")] 13

def k2c0 : Code := { maxStack := 1, maxLocals := 1, code := jdk_30_method_1_code, exceptionTable := #[], attributes := #[] }
def k2m0 : Method := { name := "<init>", desc := "()V", sig := { parameters := [], returnType := none }, accessFlags := 4, code := some k2c0 }
/-- java/lang/Record -/
def k2 : Class := { plain "java/lang/Record" (some 0) with
  accessFlags := 1057
  interfaces := #[]
  cf := some (fileOf pool2 7 #[] #[{ accessFlags := 4, nameIndex := 5, descriptorIndex := 6, attributes := #[] }] 1057 2 #[] #[])
  fields := #[]
  methods := #[k2m0]
  instanceTypes := #[]
  staticTypes := #[]
  resolved := Array.replicate 22 none
  statics := none }

def pool3 : Array CpInfo := pool [(1, .methodref 2 3), (0, .class_ 4), (0, .nameAndType 5 6), (0, u "java/lang/Record"), (0, u "<init>"), (0, u "()V"), (0, .fieldref 8 9), (0, .class_ 10), (0, .nameAndType 11 12), (0, u "com/example/deliberate_session/deliberatesession/mapping/ColumnDescription"), (0, u "sqlType"), (0, u "I"), (0, .fieldref 8 14), (0, .nameAndType 15 16), (0, u "typeName"), (0, u "Ljava/lang/String;"), (0, .fieldref 8 18), (0, .nameAndType 19 12), (0, u "precision"), (0, .fieldref 8 21), (0, .nameAndType 22 12), (0, u "scale"), (0, .fieldref 8 24), (0, .nameAndType 25 12), (0, u "singlePrecisionDigits"), (22, u "(ILjava/lang/String;III)V"), (10, .methodref 8 60), (0, .nameAndType 61 62), (0, u "singlePrecision"), (0, u "()Z"), (22, u "binaryFloatingPoint"), (0, u "digitsReadBack"), (0, u "()I")] 26

def k3c0 : Code := { maxStack := 2, maxLocals := 6, code := prog_43_method_1_code, exceptionTable := #[], attributes := #[] }
def k3m0 : Method := { name := "<init>", desc := "(ILjava/lang/String;III)V", sig := { parameters := [.int, (.object "java/lang/String"), .int, .int, .int], returnType := none }, accessFlags := 0, code := some k3c0 }
def k3c1 : Code := { maxStack := 1, maxLocals := 1, code := prog_43_method_5_code, exceptionTable := #[], attributes := #[] }
def k3m1 : Method := { name := "binaryFloatingPoint", desc := "()Z", sig := { parameters := [], returnType := some .boolean }, accessFlags := 0, code := some k3c1 }
def k3c2 : Code := { maxStack := 2, maxLocals := 1, code := prog_43_method_6_code, exceptionTable := #[], attributes := #[] }
def k3m2 : Method := { name := "singlePrecision", desc := "()Z", sig := { parameters := [], returnType := some .boolean }, accessFlags := 0, code := some k3c2 }
def k3c3 : Code := { maxStack := 1, maxLocals := 1, code := prog_43_method_7_code, exceptionTable := #[], attributes := #[] }
def k3m3 : Method := { name := "digitsReadBack", desc := "()I", sig := { parameters := [], returnType := some .int }, accessFlags := 0, code := some k3c3 }
/-- com/example/deliberate_session/deliberatesession/mapping/ColumnDescription -/
def k3 : Class := { plain "com/example/deliberate_session/deliberatesession/mapping/ColumnDescription" (some 2) with
  accessFlags := 48
  interfaces := #[]
  cf := some (fileOf pool3 8 #[] #[{ accessFlags := 0, nameIndex := 5, descriptorIndex := 48, attributes := #[] }, { accessFlags := 0, nameIndex := 85, descriptorIndex := 62, attributes := #[] }, { accessFlags := 0, nameIndex := 61, descriptorIndex := 62, attributes := #[] }, { accessFlags := 0, nameIndex := 86, descriptorIndex := 87, attributes := #[] }] 48 2 #[] #[{ accessFlags := 18, nameIndex := 11, descriptorIndex := 12, attributes := #[] }, { accessFlags := 18, nameIndex := 15, descriptorIndex := 16, attributes := #[] }, { accessFlags := 18, nameIndex := 19, descriptorIndex := 12, attributes := #[] }, { accessFlags := 18, nameIndex := 22, descriptorIndex := 12, attributes := #[] }, { accessFlags := 18, nameIndex := 25, descriptorIndex := 12, attributes := #[] }])
  fields := #[{ name := "sqlType", type := .int, accessFlags := 18, slot := 0, constantValue := 0 }, { name := "typeName", type := (.object "java/lang/String"), accessFlags := 18, slot := 1, constantValue := 0 }, { name := "precision", type := .int, accessFlags := 18, slot := 2, constantValue := 0 }, { name := "scale", type := .int, accessFlags := 18, slot := 3, constantValue := 0 }, { name := "singlePrecisionDigits", type := .int, accessFlags := 18, slot := 4, constantValue := 0 }]
  methods := #[k3m0, k3m1, k3m2, k3m3]
  instanceTypes := #[.int, (.object "java/lang/String"), .int, .int, .int]
  staticTypes := #[]
  resolved := Array.replicate 114 none
  statics := none }

def pool4 : Array CpInfo := pool [(1, u "java/lang/Cloneable"), (0, .class_ 1), (0, u "java/lang/Object"), (0, .class_ 3)] 3

/-- java/lang/Cloneable -/
def k4 : Class := { plain "java/lang/Cloneable" (some 0) with
  accessFlags := 1537
  interfaces := #[]
  cf := some (fileOf pool4 2 #[] #[] 1537 4 #[] #[])
  fields := #[]
  methods := #[]
  instanceTypes := #[]
  staticTypes := #[]
  resolved := Array.replicate 8 none
  statics := none }

def pool5 : Array CpInfo := pool [(1, u "java/io/Serializable"), (0, .class_ 1), (0, u "java/lang/Object"), (0, .class_ 3)] 3

/-- java/io/Serializable -/
def k5 : Class := { plain "java/io/Serializable" (some 0) with
  accessFlags := 1537
  interfaces := #[]
  cf := some (fileOf pool5 2 #[] #[] 1537 4 #[] #[])
  fields := #[]
  methods := #[]
  instanceTypes := #[]
  staticTypes := #[]
  resolved := Array.replicate 8 none
  statics := none }

/-- the primitive byte -/
def k6 : Class := { plain "byte" none with kind := .primitive 'B', accessFlags := 0x411 }
/-- [B -/
def k7 : Class := { plain "[B" (some 0) with kind := .array 6 .byte, interfaces := #[4, 5], accessFlags := 1041 }

/-- the primitive int -/
def k8 : Class := { plain "int" none with kind := .primitive 'I', accessFlags := 0x411 }
/-- [I -/
def k9 : Class := { plain "[I" (some 0) with kind := .array 8 .int, interfaces := #[4, 5], accessFlags := 1041 }

def heap : Heap := #[]
def classes : Array Class := #[k0, k1, k2, k3, k4, k5, k6, k7, k8, k9]
def interned : List (Array UInt16 × Addr) := []
def slotsUsed : Nat := 0
def theMethod : MethodId := ⟨1, 3⟩
def args0 : Array Value := #[.int 1, .int 2, .int 3, .int 4, .int 5, .int 6]
def aboutOver (below : List Frame) : State where
  vm := { classes := classes, interned := interned.toArray }
  heap := heap
  slotsUsed := slotsUsed
  threads := #[{ frames := .invoking theMethod args0 :: below }]
def below0 : List Frame := [.native { method := ⟨0, 0⟩, args := #[] }]
def about1 : State := aboutOver below0
def p0 : Program := .bare "" "" ""
def e0 : Env := launch0.env 0 0 0
theorem w_frames : about1.frames = Frame.invoking theMethod args0 :: below0 := rfl
set_option maxRecDepth 65536 in
theorem w_args : argsFit about1.vm theMethod args0 = true := by decide +kernel
set_option maxRecDepth 65536 in
theorem w_heap : heapFits about1 = true := by decide +kernel
set_option maxRecDepth 65536 in
theorem w_runnable : about1.curStatus? = some .runnable := by decide +kernel
set_option maxRecDepth 65536 in
theorem w_alone : about1.alone = true := by decide +kernel
set_option maxRecDepth 65536 in
theorem w_named : about1.methodNamed? x = some theMethod := by decide +kernel
set_option maxRecDepth 65536 in
theorem w_hears : about1.hears theMethod below0 = true := by decide +kernel
set_option maxRecDepth 65536 in
theorem w_ripe : about1.ripe theMethod args0 below0 = true := by decide +kernel
theorem w_running : about1.status = .running := rfl
set_option maxRecDepth 65536 in
theorem w_room : about1.hasRoom e0.platform room_1 = true :=
  launch0.hasRoom_least _ room_1 (by decide +kernel) (by decide +kernel) (by decide +kernel) (by decide +kernel) (by decide +kernel) (by decide +kernel)
theorem allAtoms_all (ts : List Jvm.Cond) (a : Array Jvm.Value) (st : Jvm.State) : (allAtoms ts).before a st = ts.all (fun c => c.before a st) := by
  induction ts with
  | nil => rfl
  | cons c t ih =>
    show (Jvm.Cond.and c (allAtoms t)).before a st = _
    rw [Jvm.Cond.before_and, ih, List.all_cons]
def words1 : List Jvm.Cond := Jvm.Cond.code x code maxLocals ret :: tables_1
/-- a 'code' word, met by the world's own term for the bytes: nothing is compared byte by byte -/
theorem code_word {y : MethodName} {bytes : ByteArray} {mx : Nat} {rt : Option FieldType} {a : Array Value} {s : State} {m : MethodId} {meth : Method} {c : Code} (h1 : s.methodNamed? y = some m) (h2 : s.vm.method? m = some meth) (h3 : meth.code = some c) (h4 : c.code = bytes)
    (h5 : (c.maxLocals == mx && c.exceptionTable.isEmpty && decide (c.maxStack ≤ mostOperands) && decide (meth.sig.returnType = rt) && !meth.locks && decide (parseMethodDescriptor y.desc = some meth.sig)) = true) : (Jvm.Cond.code y bytes mx rt).before a s = true := by
  simp only [Bool.and_eq_true, beq_iff_eq, Bool.not_eq_true', decide_eq_true_eq] at h5
  obtain ⟨⟨⟨⟨⟨g1, g2⟩, g3⟩, g4⟩, g5⟩, g6⟩ := h5
  simp [Cond.before, Cond.holds, Cond.value, h1, h2, h3, h4, g1, g2, g3, g4, g5, g6]
def isCode : Jvm.Cond → Bool
  | .code _ _ _ _ => true
  | _ => false
theorem all_split {L : List Jvm.Cond} {P : Jvm.Cond → Bool} (h1 : L.all (fun c => isCode c || P c) = true) (h2 : ∀ c ∈ L.filter isCode, P c = true) : L.all P = true := by
  refine List.all_eq_true.mpr fun c hc => ?_
  have h := List.all_eq_true.mp h1 c hc
  rcases Bool.eq_false_or_eq_true (isCode c) with hi | hi
  · exact h2 c (List.mem_filter.mpr ⟨hc, hi⟩)
  · simpa [hi] using h
set_option maxRecDepth 65536 in
theorem w_c0 : (Jvm.Cond.code x code maxLocals ret).before args0 about1 = true := code_word (m := ⟨1, 3⟩) (meth := k1m3) (c := k1c3) (by decide +kernel) rfl rfl rfl (by decide +kernel)
set_option maxRecDepth 65536 in
theorem w_c1 : (Jvm.Cond.code ({ cls := "com/example/deliberate_session/deliberatesession/mapping/ColumnDescriptionSinglePrecisionPinLaw", name := "pickType", desc := "(II)I" } : Jvm.MethodName) method_2_code (2 : Nat) (Option.some Jvm.ClassFile.FieldType.int)).before args0 about1 = true := code_word (m := ⟨1, 1⟩) (meth := k1m1) (c := k1c1) (by decide +kernel) rfl rfl rfl (by decide +kernel)
set_option maxRecDepth 65536 in
theorem w_c2 : (Jvm.Cond.code ({ cls := "com/example/deliberate_session/deliberatesession/mapping/ColumnDescriptionSinglePrecisionPinLaw", name := "pickPrecision", desc := "(II)I" } : Jvm.MethodName) method_3_code (2 : Nat) (Option.some Jvm.ClassFile.FieldType.int)).before args0 about1 = true := code_word (m := ⟨1, 2⟩) (meth := k1m2) (c := k1c2) (by decide +kernel) rfl rfl rfl (by decide +kernel)
set_option maxRecDepth 65536 in
theorem w_c3 : (Jvm.Cond.code ({ cls := "com/example/deliberate_session/deliberatesession/mapping/ColumnDescription", name := "<init>", desc := "(ILjava/lang/String;III)V" } : Jvm.MethodName) prog_43_method_1_code (6 : Nat) (Option.none : Option Jvm.ClassFile.FieldType)).before args0 about1 = true := code_word (m := ⟨3, 0⟩) (meth := k3m0) (c := k3c0) (by decide +kernel) rfl rfl rfl (by decide +kernel)
set_option maxRecDepth 65536 in
theorem w_c4 : (Jvm.Cond.code ({ cls := "java/lang/Record", name := "<init>", desc := "()V" } : Jvm.MethodName) jdk_30_method_1_code (1 : Nat) (Option.none : Option Jvm.ClassFile.FieldType)).before args0 about1 = true := code_word (m := ⟨2, 0⟩) (meth := k2m0) (c := k2c0) (by decide +kernel) rfl rfl rfl (by decide +kernel)
set_option maxRecDepth 65536 in
theorem w_c5 : (Jvm.Cond.code ({ cls := "java/lang/Object", name := "<init>", desc := "()V" } : Jvm.MethodName) object_method_1_code (1 : Nat) (Option.none : Option Jvm.ClassFile.FieldType)).before args0 about1 = true := code_word (m := ⟨0, 0⟩) (meth := k0m0) (c := k0c0) (by decide +kernel) rfl rfl rfl (by decide +kernel)
set_option maxRecDepth 65536 in
theorem w_c6 : (Jvm.Cond.code ({ cls := "com/example/deliberate_session/deliberatesession/mapping/ColumnDescription", name := "singlePrecision", desc := "()Z" } : Jvm.MethodName) prog_43_method_6_code (1 : Nat) (Option.some Jvm.ClassFile.FieldType.boolean)).before args0 about1 = true := code_word (m := ⟨3, 2⟩) (meth := k3m2) (c := k3c2) (by decide +kernel) rfl rfl rfl (by decide +kernel)
set_option maxRecDepth 65536 in
theorem w_c7 : (Jvm.Cond.code ({ cls := "com/example/deliberate_session/deliberatesession/mapping/ColumnDescription", name := "binaryFloatingPoint", desc := "()Z" } : Jvm.MethodName) prog_43_method_5_code (1 : Nat) (Option.some Jvm.ClassFile.FieldType.boolean)).before args0 about1 = true := code_word (m := ⟨3, 1⟩) (meth := k3m1) (c := k3c1) (by decide +kernel) rfl rfl rfl (by decide +kernel)
set_option maxRecDepth 65536 in
theorem w_c8 : (Jvm.Cond.code ({ cls := "com/example/deliberate_session/deliberatesession/mapping/ColumnDescription", name := "digitsReadBack", desc := "()I" } : Jvm.MethodName) prog_43_method_7_code (1 : Nat) (Option.some Jvm.ClassFile.FieldType.int)).before args0 about1 = true := code_word (m := ⟨3, 3⟩) (meth := k3m3) (c := k3c3) (by decide +kernel) rfl rfl rfl (by decide +kernel)
def codes1 : List Jvm.Cond := [Jvm.Cond.code x code maxLocals ret, Jvm.Cond.code ({ cls := "com/example/deliberate_session/deliberatesession/mapping/ColumnDescriptionSinglePrecisionPinLaw", name := "pickType", desc := "(II)I" } : Jvm.MethodName) method_2_code (2 : Nat) (Option.some Jvm.ClassFile.FieldType.int), Jvm.Cond.code ({ cls := "com/example/deliberate_session/deliberatesession/mapping/ColumnDescriptionSinglePrecisionPinLaw", name := "pickPrecision", desc := "(II)I" } : Jvm.MethodName) method_3_code (2 : Nat) (Option.some Jvm.ClassFile.FieldType.int), Jvm.Cond.code ({ cls := "com/example/deliberate_session/deliberatesession/mapping/ColumnDescription", name := "<init>", desc := "(ILjava/lang/String;III)V" } : Jvm.MethodName) prog_43_method_1_code (6 : Nat) (Option.none : Option Jvm.ClassFile.FieldType), Jvm.Cond.code ({ cls := "java/lang/Record", name := "<init>", desc := "()V" } : Jvm.MethodName) jdk_30_method_1_code (1 : Nat) (Option.none : Option Jvm.ClassFile.FieldType), Jvm.Cond.code ({ cls := "java/lang/Object", name := "<init>", desc := "()V" } : Jvm.MethodName) object_method_1_code (1 : Nat) (Option.none : Option Jvm.ClassFile.FieldType), Jvm.Cond.code ({ cls := "com/example/deliberate_session/deliberatesession/mapping/ColumnDescription", name := "singlePrecision", desc := "()Z" } : Jvm.MethodName) prog_43_method_6_code (1 : Nat) (Option.some Jvm.ClassFile.FieldType.boolean), Jvm.Cond.code ({ cls := "com/example/deliberate_session/deliberatesession/mapping/ColumnDescription", name := "binaryFloatingPoint", desc := "()Z" } : Jvm.MethodName) prog_43_method_5_code (1 : Nat) (Option.some Jvm.ClassFile.FieldType.boolean), Jvm.Cond.code ({ cls := "com/example/deliberate_session/deliberatesession/mapping/ColumnDescription", name := "digitsReadBack", desc := "()I" } : Jvm.MethodName) prog_43_method_7_code (1 : Nat) (Option.some Jvm.ClassFile.FieldType.int)]
set_option maxRecDepth 65536 in
theorem codes_eq : words1.filter isCode = codes1 := rfl
theorem w_codes : ∀ c ∈ words1.filter isCode, c.before args0 about1 = true := by
  rw [codes_eq]
  intro c hc
  simp only [codes1, List.mem_cons, List.not_mem_nil, or_false] at hc
  rcases hc with rfl | rfl | rfl | rfl | rfl | rfl | rfl | rfl | rfl
  · exact w_c0
  · exact w_c1
  · exact w_c2
  · exact w_c3
  · exact w_c4
  · exact w_c5
  · exact w_c6
  · exact w_c7
  · exact w_c8
set_option maxRecDepth 65536 in
theorem w_t1 : (words1.take 24).all (fun c => isCode c || c.before args0 about1) = true := by decide +kernel
set_option maxRecDepth 65536 in
theorem w_t2 : ((words1.drop 24).take 24).all (fun c => isCode c || c.before args0 about1) = true := by decide +kernel
set_option maxRecDepth 65536 in
theorem w_t3 : ((words1.drop 24).drop 24).all (fun c => isCode c || c.before args0 about1) = true := by decide +kernel
theorem w_tables : (allAtoms (Jvm.Cond.code x code maxLocals ret :: tables_1)).before args0 about1 = true := by
  rw [allAtoms_all]
  show words1.all (fun c => c.before args0 about1) = true
  refine all_split ?_ w_codes
  rw [← List.take_append_drop 24 words1, List.all_append, w_t1, ← List.take_append_drop 24 (words1.drop 24), List.all_append, w_t2, w_t3]
  rfl
set_option maxRecDepth 65536 in
theorem w_case : (Jvm.Cond.and given_1 narrow_1).before args0 about1 = true := by decide +kernel
theorem w_applies : (headSpec (Jvm.Cond.code x code maxLocals ret :: tables_1) room_1).applies x e0.platform about1 = true :=
  (Spec.applies_iff w_frames).mpr ⟨w_running, w_runnable, w_alone, w_named, w_hears, w_ripe, w_room, w_tables⟩
theorem atStart : AtStart classFile x code maxLocals ret World_1 tables_1 room_1 Calls_1 rest_1 Pre_1 launch0 p0 e0 about1 theMethod args0 below0 :=
  ⟨lists_1, trivial, launch0.admits_env _ _ _, launch0.least_env, fairChoices_fair.cas, fairChoices_fair.clock, w_frames, w_args, w_heap, w_applies, trivial, trivial, w_case⟩
end start1
theorem witness_1 : WitnessClaimed_1 := ⟨start1.p0, start1.e0, start1.about1, start1.theMethod, start1.args0, start1.below0, start1.atStart⟩
end Jvm.Pilot.@@N@@
