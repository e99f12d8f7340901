import JvmDerived
import JvmDerived.Pilot.@@N@@Statement
import JvmDerived.Pilot.@@N@@Code
set_option linter.unusedVariables false
set_option linter.unusedSimpArgs false
namespace Jvm.Pilot.@@N@@
open Jvm Jvm.ClassFile Sem Op Lib Jvm.Free Jvm.Stand Jvm.LawKit Jvm.RoadKit Bundle Jvm.Pilot.@@N@@.Jvm.D
/-- from U the run comes to a state of which K holds -/
def own_Go (tb : Tables) (e : Env) (below : List Frame) (K : State → Prop) (U : State) : Prop := ∃ t, Steps tb e below U t ∧ K t
theorem own_by {tb : Tables} {e : Env} {below : List Frame} {K : State → Prop} {U U' : State} (k : ∀ t, Steps tb e below U' t → Steps tb e below U t) (h : own_Go tb e below K U') : own_Go tb e below K U := by
  obtain ⟨t, a, b⟩ := h
  exact ⟨t, k t a, b⟩
/-- what a returning instruction needs: the frames that it leaves, and that K holds there -/
def own_Out (e : Env) (m : MethodId) (K : State → Prop) (T : State) (v : Option Value) : Prop := ∃ fs, (∀ (f : JFrame) (acts : List Action), f.method = m → f.locked = none → f.entered = [] → (doReturn e (T.setTop f) acts v).1 = T.setFrames fs) ∧ K (T.setFrames fs)
theorem own_met {l : Launch} {y : MethodName} {bytes : ByteArray} {ml : Nat} {ret : Option FieldType} {ws : List Jvm.Cond} {rm : Room} {as' : Array Value} {Z : State} {h0 : Heap} {k n : Nat} {Q : Option Value → Heap → List Loc → Prop} (hp : plainFor y = true)
    (body : ∀ (p : Program) (e : Env) (s : State) (m : MethodId) (below : List Frame) (meth : Method) (c : Code) (s₁ : State) (K : State → Prop), p.tables.exec = Jvm.exec → c.code = bytes → c.maxLocals = ml → s.vm.findClass y.cls = some m.cls → meth.name = y.name → meth.sig.returnType = ret →
      Z.Warmed39 s.vm → Stand p l e rm s m as' below meth c s₁ [] 0 0 → s₁.heap = h0 →
      (∀ (v : Option Value) {T : State} {L : List Loc} {k' n' : Nat}, Stand p l e rm s m as' below meth c T L k' n' → (meth.sig.returnType = none → v = none) → Q v T.heap L → k' ≤ k → n' ≤ n → own_Out e m K T v) →
      own_Go p.tables e below K (s₁.setTop (entryFrame m as' ml))) :
    MetFree l y (head1 (Jvm.Cond.code y bytes ml ret :: ws) rm) (fun a U => a = as' ∧ Z.Warmed39 U.vm ∧ U.heap = h0) (fun _ _ _ _ _ => True) (fun _ U o U' => ∃ v L, o = .returned v ∧ Q v U'.heap L ∧ FrameEnd U o U' L k n) := by
  refine MetFree.of_bodySF hp hisR ?_
  intro p e s m args below meth c s₁ Bd hml0 hP hK
  obtain ⟨rfl, hZ, hh⟩ := hP
  have hown : s.vm.findClass y.cls = some m.cls := findClass_of_methodNamed Bd.named
  obtain ⟨t, hs, o, h1, h2, h3⟩ := body p e s m below meth c s₁ (fun t => ∃ o, t.status = .running ∧ Ended t below o ∧ ∃ v L, o = .returned v ∧ Q v t.heap L ∧ FrameEnd s o t L k n) Bd.exec Bd.bytes hml0 hown (name_of_methodNamed Bd.named Bd.method).1 Bd.returns hZ (Stand.of_body Bd) (by rw [← hh, Bd.state]; rfl) (by
    intro v T L k' n' X hv hq hk hn
    obtain ⟨fs, hr, hrun, hended, hW, hsame⟩ := X.leave (v := v) hv
    exact ⟨fs, hr, _, hrun, hended, v, L, rfl, hq, ⟨_, rfl⟩, hW, hsame.mono hk hn⟩)
  exact ⟨t, o, hs, h1, h2, h3⟩
section OwnRet
variable {p : Program} {l : Launch} {e : Env} {R : Room} {s : State} {m : MethodId} {args : Array Value} {below : List Frame} {meth : Method} {c : Code} {T : State} {locs : List Loc} {cells slots : Nat} {K : State → Prop}
theorem own_retI (X : Stand p l e R s m args below meth c T locs cells slots) (hx : p.tables.exec = Jvm.exec) (hret : meth.sig.returnType = some .int) {pc : Nat} {Ls : Array Slot} {z : Int32} {rest : List Value} (hd : decode c.code pc = .ok (.ireturn, 1)) (hq : own_Out e m K T (some (.int z))) : own_Go p.tables e below K (T.setTop (mkF m pc Ls (.int z :: rest))) := by
  obtain ⟨fs, hr, hk⟩ := hq
  exact ⟨_, retOut X hx hret rfl (Or.inl ⟨rfl, Or.inl rfl, _, rfl⟩) hd hr, hk⟩
theorem own_retZ (X : Stand p l e R s m args below meth c T locs cells slots) (hx : p.tables.exec = Jvm.exec) {t : FieldType} (hret : meth.sig.returnType = some t) (ht : t = .boolean ∨ t = .byte ∨ t = .char ∨ t = .short) {pc : Nat} {Ls : Array Slot} {z : Int32} {rest : List Value} (hd : decode c.code pc = .ok (.ireturn, 1)) (hq : own_Out e m K T (some (.int (nar t z)))) : own_Go p.tables e below K (T.setTop (mkF m pc Ls (.int z :: rest))) := by
  obtain ⟨fs, hr, hk⟩ := hq
  exact ⟨_, retN X hx hret ht hd hr, hk⟩
theorem own_retJ (X : Stand p l e R s m args below meth c T locs cells slots) (hx : p.tables.exec = Jvm.exec) (hret : meth.sig.returnType = some .long) {pc : Nat} {Ls : Array Slot} {z : Int64} {rest : List Value} (hd : decode c.code pc = .ok (.lreturn, 1)) (hq : own_Out e m K T (some (.long z))) : own_Go p.tables e below K (T.setTop (mkF m pc Ls (.long z :: rest))) := by
  obtain ⟨fs, hr, hk⟩ := hq
  exact ⟨_, retOut X hx hret rfl (Or.inr (Or.inl ⟨rfl, rfl, _, rfl⟩)) hd hr, hk⟩
theorem own_retA (X : Stand p l e R s m args below meth c T locs cells slots) (hx : p.tables.exec = Jvm.exec) {t : FieldType} (hret : meth.sig.returnType = some t) (ht : t.isReference = true) {pc : Nat} {Ls : Array Slot} {w : Value} {rest : List Value} (hn : narrow t w = w) (hw : w.isRef = true) (hd : decode c.code pc = .ok (.areturn, 1)) (hq : own_Out e m K T (some w)) : own_Go p.tables e below K (T.setTop (mkF m pc Ls (w :: rest))) := by
  obtain ⟨fs, hr, hk⟩ := hq
  exact ⟨_, retOut X hx hret hn (Or.inr (Or.inr (Or.inr (Or.inr ⟨rfl, ht, hw⟩)))) hd hr, hk⟩
theorem own_retV (X : Stand p l e R s m args below meth c T locs cells slots) (hx : p.tables.exec = Jvm.exec) (hret : meth.sig.returnType = none) {pc : Nat} {Ls : Array Slot} (hd : decode c.code pc = .ok (.return_, 1)) (hq : own_Out e m K T none) : own_Go p.tables e below K (T.setTop (mkF m pc Ls [])) := by
  obtain ⟨fs, hr, hk⟩ := hq
  exact ⟨_, X.returnOut hx hret hd hr, hk⟩
end OwnRet
theorem own_nar {C : String} {w : Value} (h : w.isRef = true) : narrow (.object C) w = w := by cases w <;> rfl
theorem own_fit {C : String} {w : Value} (h : w.isRef = true) : fits (.object C) w = true := by cases w <;> first | rfl | (simp [Value.isRef] at h)
theorem own_more {p : Program} {l : Launch} {e : Env} {R : Room} {s : State} {m : MethodId} {args : Array Value} {below : List Frame} {meth : Method} {c : Code} {T : State} {locs : List Loc} {k n k' n' : Nat} (X : Stand p l e R s m args below meth c T locs k n) (hk : k ≤ k') (hn : n ≤ n') : Stand p l e R s m args below meth c T locs k' n' := { X with same := X.same.mono hk hn }
/-- a condition as 0 or 1 -/
def own_tern (x : Int32) : Int32 := if x = 0 then 0 else 1
theorem own_t0 {x : Int32} (h : x = 0) : own_tern x = 0 := if_pos h
theorem own_t1 {x : Int32} (h : ¬ x = 0) : own_tern x = 1 := if_neg h
theorem own_t01 (x : Int32) : own_tern x = 0 ∨ own_tern x = 1 := by unfold own_tern; split <;> simp
theorem own_nb {x : Int32} (h : x = 0 ∨ x = 1) : nar .boolean x = x := by rcases h with rfl | rfl <;> rfl
theorem own_b53 (x : Int32) : B53 x.toInt64 := by
  have h1 := x.toInt_lt; have h2 := x.le_toInt
  unfold B53
  rw [Int32.toInt_toInt64]
  omega
theorem own_i64 (x y : Int32) : x.toInt64 < y.toInt64 ↔ x < y := by rw [Int64.lt_iff_toInt_lt, Int32.lt_iff_toInt_lt, Int32.toInt_toInt64, Int32.toInt_toInt64]
theorem own_ni {x y : Int32} (h : ¬ x = y) {n : Int} (e : y.toInt = n) : ¬ x.toInt = n := fun q => h (Int32.toInt_inj.mp (q.trans e.symm))
theorem own_llt {x y : Int64} (h : x < y) : ifCond.holds .lt (lcmpW x y) = true ∧ ifCond.holds .ge (lcmpW x y) = false := by
  have q := tlt (by rw [lcW]; exact (lc_lt x y).mpr h : lcmpW x y < 0)
  exact ⟨(if0 _ _).trans q.1, (if0 _ _).trans q.2.1⟩
theorem own_lge {x y : Int64} (h : ¬ x < y) : ifCond.holds .lt (lcmpW x y) = false ∧ ifCond.holds .ge (lcmpW x y) = true := by
  have q := flt (by rw [lcW]; exact fun z => h ((lc_lt x y).mp z) : ¬ lcmpW x y < 0)
  exact ⟨(if0 _ _).trans q.1, (if0 _ _).trans q.2.1⟩
theorem own_lgt {x y : Int64} (h : y < x) : ifCond.holds .gt (lcmpW x y) = true ∧ ifCond.holds .le (lcmpW x y) = false := by
  have q := tlt (by rw [lcW]; exact (lc_gt x y).mpr h : 0 < lcmpW x y)
  exact ⟨(if0 _ _).trans q.2.2.1, (if0 _ _).trans q.2.2.2⟩
theorem own_lle {x y : Int64} (h : ¬ y < x) : ifCond.holds .gt (lcmpW x y) = false ∧ ifCond.holds .le (lcmpW x y) = true := by
  have q := flt (by rw [lcW]; exact fun z => h ((lc_gt x y).mp z) : ¬ 0 < lcmpW x y)
  exact ⟨(if0 _ _).trans q.2.2.1, (if0 _ _).trans q.2.2.2⟩
theorem own_leq {x y : Int64} (h : x = y) : ifCond.holds .eq (lcmpW x y) = true ∧ ifCond.holds .ne (lcmpW x y) = false := by
  have q := teq (by rw [lcW]; exact (lc_eq x y).mpr h : lcmpW x y = 0)
  exact ⟨(if0 _ _).trans q.1, (if0 _ _).trans q.2⟩
theorem own_lne {x y : Int64} (h : ¬ x = y) : ifCond.holds .eq (lcmpW x y) = false ∧ ifCond.holds .ne (lcmpW x y) = true := by
  have q := feq (by rw [lcW]; exact fun z => h ((lc_eq x y).mp z) : ¬ lcmpW x y = 0)
  exact ⟨(if0 _ _).trans q.1, (if0 _ _).trans q.2⟩
def own_mm (a b : Int64) : Int32 := if a = -1 ∨ ¬ ((a &&& b) = 0) then 1 else 0
theorem own_mm_m (b : Int64) : own_mm (-1) b = 1 := by simp [own_mm]
theorem own_mm_z (b : Int64) : own_mm 0 b = 0 := by simp [own_mm]
theorem own_mm_0 {a : Int64} (h : ¬ a = -1) : own_mm a 0 = 0 := by simp [own_mm, h]
theorem own_mm_n {a : Int64} (h : ¬ a = -1) : own_mm a (a ^^^ -1) = 0 := by
  have e : a &&& (a ^^^ -1) = 0 := by
    apply Int64.toBitVec_inj.mp
    rw [Int64.toBitVec_and, Int64.toBitVec_xor]
    have : (-1 : Int64).toBitVec = BitVec.allOnes 64 := by decide
    rw [this]
    apply BitVec.eq_of_getLsbD_eq
    intro i hi
    simp only [BitVec.getLsbD_and, BitVec.getLsbD_xor, BitVec.getLsbD_allOnes, hi, decide_true, BitVec.getLsbD_zero]
    cases a.toBitVec.getLsbD i <;> simp
  simp only [own_mm, h, e]
  simp
theorem own_mm_c {a b : Int64} (h : ¬ a = -1) (h' : ¬ b = -1) : own_mm a b = own_mm b a := by simp [own_mm, h, h', Int64.and_comm a b]
theorem own_or0 (x y : Int64) : (x ||| y = 0) ↔ (x = 0 ∧ y = 0) := by
  constructor
  · intro h
    have h := congrArg Int64.toBitVec h
    rw [Int64.toBitVec_or] at h
    have q : ∀ i, i < 64 → (x.toBitVec ||| y.toBitVec).getLsbD i = false := by intro i hi; rw [h]; simp
    constructor
    · apply Int64.toBitVec_inj.mp; apply BitVec.eq_of_getLsbD_eq; intro i hi
      have := q i hi; simp at this; simp [this.1]
    · apply Int64.toBitVec_inj.mp; apply BitVec.eq_of_getLsbD_eq; intro i hi
      have := q i hi; simp at this; simp [this.2]
  · rintro ⟨rfl, rfl⟩; rfl
theorem own_mm_o {a b c : Int64} (h : ¬ a = -1) : own_mm a (b ||| c) = if own_mm a b = 0 ∧ own_mm a c = 0 then 0 else 1 := by
  have e : a &&& (b ||| c) = (a &&& b) ||| (a &&& c) := by
    apply Int64.toBitVec_inj.mp
    simp only [Int64.toBitVec_and, Int64.toBitVec_or]
    apply BitVec.eq_of_getLsbD_eq; intro i hi
    simp only [BitVec.getLsbD_and, BitVec.getLsbD_or]
    cases a.toBitVec.getLsbD i <;> simp
  simp only [own_mm, h, e, own_or0, false_or]
  by_cases h1 : a &&& b = 0 <;> by_cases h2 : a &&& c = 0 <;> simp [h1, h2]
theorem own_mm_b {a : Int64} (h : ¬ a = -1) (i : Int32) : own_mm a ((1 : Int64) <<< (i &&& 0x3f).toInt64) = if ((a.toUInt64 >>> (i &&& 0x3f).toInt64.toUInt64).toInt64 &&& 1) = 0 then 0 else 1 := by
  have hb : (i &&& 0x3f).toBitVec.toNat < 64 := by
    rw [Int32.toBitVec_and, BitVec.toNat_and]
    exact Nat.lt_of_le_of_lt Nat.and_le_right (by decide)
  have hi : (i &&& 0x3f).toInt = (i &&& 0x3f).toBitVec.toNat := by
    rw [← Int32.toInt_toBitVec, BitVec.toInt_eq_toNat_cond, if_pos (by omega)]
  generalize i &&& 0x3f = j at *
  obtain ⟨n, hn⟩ : ∃ n, n = j.toBitVec.toNat := ⟨_, rfl⟩
  rw [← hn] at hb hi
  have h1 : j.toInt64.toInt = n := by rw [Int32.toInt_toInt64, hi]
  have h2 : j.toInt64.toBitVec.toNat = n := by
    have : j.toInt64.toBitVec.toInt = n := h1
    rw [BitVec.toInt_eq_toNat_cond] at this
    split at this <;> omega
  have h3 : ((1 : Int64) <<< j.toInt64).toBitVec = (1#64) <<< n := by
    rw [Int64.toBitVec_shiftLeft]
    have : (j.toInt64.toBitVec.smod 64) = j.toInt64.toBitVec := by
      apply BitVec.eq_of_toInt_eq
      rw [BitVec.toInt_smod]
      have e1 : j.toInt64.toBitVec.toInt = n := h1
      rw [e1]
      show (n : Int).fmod 64 = n
      rw [Int.fmod_eq_emod_of_nonneg _ (by decide)]
      omega
    rw [this, BitVec.shiftLeft_eq', h2]
    rfl
  have h4 : (a.toUInt64 >>> j.toInt64.toUInt64).toInt64.toBitVec = a.toBitVec >>> n := by
    show (a.toUInt64 >>> j.toInt64.toUInt64).toBitVec = _
    apply BitVec.eq_of_toNat_eq
    show (a.toUInt64 >>> j.toInt64.toUInt64).toNat = _
    rw [UInt64.toNat_shiftRight, show j.toInt64.toUInt64.toNat = n from h2, Nat.mod_eq_of_lt hb]
    rfl
  have h5 : (a &&& ((1 : Int64) <<< j.toInt64) = 0) ↔ ((a.toUInt64 >>> j.toInt64.toUInt64).toInt64 &&& 1) = 0 := by
    rw [← Int64.toBitVec_inj, ← Int64.toBitVec_inj, Int64.toBitVec_and, Int64.toBitVec_and, h3, h4]
    show a.toBitVec &&& 1#64 <<< n = 0#64 ↔ a.toBitVec >>> n &&& 1#64 = 0#64
    constructor
    · intro q
      have r := congrArg (fun z => BitVec.getLsbD z n) q
      simp only [BitVec.getLsbD_and, BitVec.getLsbD_shiftLeft, BitVec.getLsbD_one, BitVec.getLsbD_zero, Nat.lt_irrefl, Nat.sub_self, decide_true, decide_false, hb, Bool.and_true, Bool.not_false, Bool.true_and, Nat.zero_lt_succ] at r
      apply BitVec.eq_of_getLsbD_eq; intro i hi
      simp only [BitVec.getLsbD_and, BitVec.getLsbD_ushiftRight, BitVec.getLsbD_one, BitVec.getLsbD_zero]
      by_cases hz : i = 0
      · subst hz; simp [r]
      · simp [hz]
    · intro q
      have r := congrArg (fun z => BitVec.getLsbD z 0) q
      simp at r
      apply BitVec.eq_of_getLsbD_eq; intro i hi
      simp only [BitVec.getLsbD_and, BitVec.getLsbD_shiftLeft, BitVec.getLsbD_one, BitVec.getLsbD_zero]
      by_cases hz : i = n
      · subst hz; simp [r]
      · by_cases hl : i < n
        · simp [hl]
        · have : i - n ≠ 0 := by omega
          simp [this]
  simp only [own_mm, h, false_or, h5]
  split <;> rename_i q <;> simp_all
theorem own_pn1 : plainName "com/example/predicate/predicate/engine/ValueBits" = true := by first | (simp [plainName, overriddenIn]; done) | decide +kernel
theorem own_d1_0 : decode prog_97_method_6_code 0 = .ok (.lload_n 0, 1) := by decide +kernel
theorem own_d1_1 : decode prog_97_method_6_code 1 = .ok (.ldc2_w 47, 3) := by decide +kernel
theorem own_d1_4 : decode prog_97_method_6_code 4 = .ok (.lcmp, 1) := by decide +kernel
theorem own_d1_5 : decode prog_97_method_6_code 5 = .ok (.ifCond .eq 11, 3) := by decide +kernel
theorem own_d1_8 : decode prog_97_method_6_code 8 = .ok (.lload_n 0, 1) := by decide +kernel
theorem own_d1_9 : decode prog_97_method_6_code 9 = .ok (.lload_n 2, 1) := by decide +kernel
theorem own_d1_10 : decode prog_97_method_6_code 10 = .ok (.land, 1) := by decide +kernel
theorem own_d1_11 : decode prog_97_method_6_code 11 = .ok (.lconst 0, 1) := by decide +kernel
theorem own_d1_12 : decode prog_97_method_6_code 12 = .ok (.lcmp, 1) := by decide +kernel
theorem own_d1_13 : decode prog_97_method_6_code 13 = .ok (.ifCond .eq 7, 3) := by decide +kernel
theorem own_d1_16 : decode prog_97_method_6_code 16 = .ok (.iconst 1, 1) := by decide +kernel
theorem own_d1_17 : decode prog_97_method_6_code 17 = .ok (.goto 4, 3) := by decide +kernel
theorem own_d1_20 : decode prog_97_method_6_code 20 = .ok (.iconst 0, 1) := by decide +kernel
theorem own_d1_21 : decode prog_97_method_6_code 21 = .ok (.ireturn, 1) := by decide +kernel
theorem own_ef1 (m : MethodId) (q1 : Int64) (q2 : Int64) : entryFrame m #[(.long q1), (.long q2)] 4 = mkF m 0 #[.val (.long q1), .second, .val (.long q2), .second] [] := by first | (simp [entryFrame, mkF, argsToLocals, Value.category]; done) | rfl
def own_Q1 (Z : State) (q1 : Int64) (q2 : Int64) (h0 : Heap) (n0 : Nat) (v : Option Value) (h : Heap) (L : List Loc) : Prop := v = some (.int (own_mm q1 q2)) ∧ Fr n0 L ∧ h = h0
set_option maxRecDepth 65536 in
set_option maxHeartbeats 40000000 in
theorem own_rm1 (l : Launch) (Z : State) (a0 : Array Value) (hw : ∀ d ∈ tables_1, d.before a0 Z = true) (ws : List Jvm.Cond) (q1 : Int64) (q2 : Int64) (h0 : Heap) (n0 : Nat) (Z0 : n0 ≤ h0.size)  :
    MetFree l (⟨"com/example/predicate/predicate/engine/ValueBits", "mayMeet", "(JJ)Z"⟩ : MethodName) (head1 (Jvm.Cond.code (⟨"com/example/predicate/predicate/engine/ValueBits", "mayMeet", "(JJ)Z"⟩ : MethodName) prog_97_method_6_code 4 (some .boolean) :: ws) ({ frames := 0, cells := 0, slots := 0, locals := 0 } : Room)) (fun a U => a = #[(.long q1), (.long q2)] ∧ Z.Warmed39 U.vm ∧ U.heap = h0) (fun _ _ _ _ _ => True) (fun _ U o U' => ∃ v L, o = .returned v ∧ own_Q1 Z q1 q2 h0 n0 v U'.heap L ∧ FrameEnd U o U' L ({ frames := 0, cells := 0, slots := 0, locals := 0 } : Room).cells ({ frames := 0, cells := 0, slots := 0, locals := 0 } : Room).slots) := by
  refine own_met (Q := own_Q1 Z q1 q2 h0 n0) (plainFor_of_name own_pn1) ?_
  intro p e s m below meth c s₁ K hx hby hml hown hnm hret hZ X0 e0 hK
  have hown : s.vm.findClass "com/example/predicate/predicate/engine/ValueBits" = some m.cls := hown
  have N0 := Fr.nil n0
  refine own_by (fun t k => castTop (own_ef1 m q1 q2) k) ?_
  show own_Go p.tables e below K (s₁.setTop (mkF m 0 #[.val (.long q1), .second, .val (.long q2), .second] []))
  refine own_by (fun t k => XS.lloadN X0.here hx rfl (hb hby own_d1_0) rfl k) ?_
  show own_Go p.tables e below K (s₁.setTop (mkF m 1 #[.val (.long q1), .second, .val (.long q2), .second] [(.long q1)]))
  refine own_by (fun t k => X0.ldc2Long hx hown (mvT hZ (hw _ (List.mem_of_getElem? (i := 5) rfl))) (g := (mkF m 1 #[.val (.long q1), .second, .val (.long q2), .second] [(.long q1)])) rfl (hb hby own_d1_1) _ k) ?_
  show own_Go p.tables e below K (s₁.setTop (mkF m 4 #[.val (.long q1), .second, .val (.long q2), .second] [(.long (-1 : Int64)), (.long q1)]))
  refine own_by (fun t k => XS.lcmp X0.here hx rfl (hb hby own_d1_4) rfl k) ?_
  show own_Go p.tables e below K (s₁.setTop (mkF m 5 #[.val (.long q1), .second, .val (.long q2), .second] [(.int (lcmpW q1 (-1 : Int64)))]))
  by_cases hc5 : q1 = (-1 : Int64)
  · refine own_by (fun t k => XS.ifYes X0.here hx rfl (pc0 := 5) (pc' := 16) rfl (hb hby own_d1_5) rfl (own_leq hc5).1 (by decide) (by decide) k) ?_
    show own_Go p.tables e below K (s₁.setTop (mkF m 16 #[.val (.long q1), .second, .val (.long q2), .second] []))
    refine own_by (fun t k => XS.iconst X0.here hx rfl (hb hby own_d1_16) k) ?_
    show own_Go p.tables e below K (s₁.setTop (mkF m 17 #[.val (.long q1), .second, .val (.long q2), .second] [(.int (1 : Int32))]))
    refine own_by (fun t k => XS.goto X0.here hx rfl (pc0 := 17) (pc' := 21) rfl (hb hby own_d1_17) (by decide) (by decide) k) ?_
    show own_Go p.tables e below K (s₁.setTop (mkF m 21 #[.val (.long q1), .second, .val (.long q2), .second] [(.int (1 : Int32))]))
    exact own_retZ X0 hx (t := .boolean) hret (by simp) (hb hby own_d1_21) (hK (some (.int (1 : Int32))) X0 (fun h => by rw [hret] at h; cases h) ⟨by simp [own_mm, *], N0, e0⟩ (by decide) (by decide))
  · refine own_by (fun t k => XS.ifNo X0.here hx rfl (hb hby own_d1_5) rfl (own_lne hc5).1 k) ?_
    show own_Go p.tables e below K (s₁.setTop (mkF m 8 #[.val (.long q1), .second, .val (.long q2), .second] []))
    refine own_by (fun t k => XS.lloadN X0.here hx rfl (hb hby own_d1_8) rfl k) ?_
    show own_Go p.tables e below K (s₁.setTop (mkF m 9 #[.val (.long q1), .second, .val (.long q2), .second] [(.long q1)]))
    refine own_by (fun t k => XS.lloadN X0.here hx rfl (hb hby own_d1_9) rfl k) ?_
    show own_Go p.tables e below K (s₁.setTop (mkF m 10 #[.val (.long q1), .second, .val (.long q2), .second] [(.long q2), (.long q1)]))
    refine own_by (fun t k => XS.land X0.here hx rfl (hb hby own_d1_10) rfl k) ?_
    show own_Go p.tables e below K (s₁.setTop (mkF m 11 #[.val (.long q1), .second, .val (.long q2), .second] [(.long (q1 &&& q2))]))
    refine own_by (fun t k => XS.lconst X0.here hx rfl (hb hby own_d1_11) k) ?_
    show own_Go p.tables e below K (s₁.setTop (mkF m 12 #[.val (.long q1), .second, .val (.long q2), .second] [(.long (0 : Int64)), (.long (q1 &&& q2))]))
    refine own_by (fun t k => XS.lcmp X0.here hx rfl (hb hby own_d1_12) rfl k) ?_
    show own_Go p.tables e below K (s₁.setTop (mkF m 13 #[.val (.long q1), .second, .val (.long q2), .second] [(.int (lcmpW (q1 &&& q2) (0 : Int64)))]))
    by_cases hc13 : (q1 &&& q2) = (0 : Int64)
    · refine own_by (fun t k => XS.ifYes X0.here hx rfl (pc0 := 13) (pc' := 20) rfl (hb hby own_d1_13) rfl (own_leq hc13).1 (by decide) (by decide) k) ?_
      show own_Go p.tables e below K (s₁.setTop (mkF m 20 #[.val (.long q1), .second, .val (.long q2), .second] []))
      refine own_by (fun t k => XS.iconst X0.here hx rfl (hb hby own_d1_20) k) ?_
      show own_Go p.tables e below K (s₁.setTop (mkF m 21 #[.val (.long q1), .second, .val (.long q2), .second] [(.int (0 : Int32))]))
      exact own_retZ X0 hx (t := .boolean) hret (by simp) (hb hby own_d1_21) (hK (some (.int (0 : Int32))) X0 (fun h => by rw [hret] at h; cases h) ⟨by simp [own_mm, *], N0, e0⟩ (by decide) (by decide))
    · refine own_by (fun t k => XS.ifNo X0.here hx rfl (hb hby own_d1_13) rfl (own_lne hc13).1 k) ?_
      show own_Go p.tables e below K (s₁.setTop (mkF m 16 #[.val (.long q1), .second, .val (.long q2), .second] []))
      refine own_by (fun t k => XS.iconst X0.here hx rfl (hb hby own_d1_16) k) ?_
      show own_Go p.tables e below K (s₁.setTop (mkF m 17 #[.val (.long q1), .second, .val (.long q2), .second] [(.int (1 : Int32))]))
      refine own_by (fun t k => XS.goto X0.here hx rfl (pc0 := 17) (pc' := 21) rfl (hb hby own_d1_17) (by decide) (by decide) k) ?_
      show own_Go p.tables e below K (s₁.setTop (mkF m 21 #[.val (.long q1), .second, .val (.long q2), .second] [(.int (1 : Int32))]))
      exact own_retZ X0 hx (t := .boolean) hret (by simp) (hb hby own_d1_21) (hK (some (.int (1 : Int32))) X0 (fun h => by rw [hret] at h; cases h) ⟨by simp [own_mm, *], N0, e0⟩ (by decide) (by decide))
theorem own_pd0 : parseMethodDescriptor "(JJ)Z" = some ⟨[.long, .long], some .boolean⟩ := by decide +kernel
theorem own_pn0 : plainName "com/example/predicate/predicate/engine/ValueBitsMayMeetPinLaw" = true := by first | (simp [plainName, overriddenIn]; done) | decide +kernel
theorem own_ef0 (m : MethodId) (q1 : Int64) (q2 : Int64) (q3 : Int64) (q4 : Int32) : entryFrame m #[(.long q1), (.long q2), (.long q3), (.int q4)] maxLocals = mkF m 0 #[.val (.long q1), .second, .val (.long q2), .second, .val (.long q3), .second, .val (.int q4), .unset, .unset, .unset, .unset] [] := by first | (simp [entryFrame, mkF, argsToLocals, Value.category, maxLocals]; done) | rfl
def own_Q0 (Z : State) (q1 : Int64) (q2 : Int64) (q3 : Int64) (q4 : Int32) (h0 : Heap) (n0 : Nat) (v : Option Value) (h : Heap) (L : List Loc) : Prop := v = some (.int (1 : Int32)) ∧ Fr n0 L
set_option maxRecDepth 65536 in
set_option maxHeartbeats 40000000 in
theorem own_rm0 (l : Launch) (Z : State) (a0 : Array Value) (hw : ∀ d ∈ tables_1, d.before a0 Z = true) (ws : List Jvm.Cond) (q1 : Int64) (q2 : Int64) (q3 : Int64) (q4 : Int32) (h0 : Heap) (n0 : Nat) (Z0 : n0 ≤ h0.size)  :
    MetFree l x (head1 (Jvm.Cond.code x code maxLocals ret :: ws) room_1) (fun a U => a = #[(.long q1), (.long q2), (.long q3), (.int q4)] ∧ Z.Warmed39 U.vm ∧ U.heap = h0) (fun _ _ _ _ _ => True) (fun _ U o U' => ∃ v L, o = .returned v ∧ own_Q0 Z q1 q2 q3 q4 h0 n0 v U'.heap L ∧ FrameEnd U o U' L 0 0) := by
  refine own_met (Q := own_Q0 Z q1 q2 q3 q4 h0 n0) (plainFor_of_name own_pn0) ?_
  intro p e s m below meth c s₁ K hx hby hml hown hnm hret hZ X0 e0 hK
  have hown : s.vm.findClass "com/example/predicate/predicate/engine/ValueBitsMayMeetPinLaw" = some m.cls := hown
  have N0 := Fr.nil n0
  refine own_by (fun t k => castTop (own_ef0 m q1 q2 q3 q4) k) ?_
  show own_Go p.tables e below K (s₁.setTop (mkF m 0 #[.val (.long q1), .second, .val (.long q2), .second, .val (.long q3), .second, .val (.int q4), .unset, .unset, .unset, .unset] []))
  refine own_by (fun t k => XS.iload X0.here hx rfl (hb hby at_0) rfl k) ?_
  show own_Go p.tables e below K (s₁.setTop (mkF m 2 #[.val (.long q1), .second, .val (.long q2), .second, .val (.long q3), .second, .val (.int q4), .unset, .unset, .unset, .unset] [(.int q4)]))
  refine own_by (fun t k => XS.bipush X0.here hx rfl (hb hby at_2) k) ?_
  show own_Go p.tables e below K (s₁.setTop (mkF m 4 #[.val (.long q1), .second, .val (.long q2), .second, .val (.long q3), .second, .val (.int q4), .unset, .unset, .unset, .unset] [(.int (63 : Int32)), (.int q4)]))
  refine own_by (fun t k => XS.iand X0.here hx rfl (hb hby at_4) rfl k) ?_
  show own_Go p.tables e below K (s₁.setTop (mkF m 5 #[.val (.long q1), .second, .val (.long q2), .second, .val (.long q3), .second, .val (.int q4), .unset, .unset, .unset, .unset] [(.int (q4 &&& (63 : Int32)))]))
  refine own_by (fun t k => XS.istore X0.here hx rfl (hb hby at_5) rfl (l' := #[.val (.long q1), .second, .val (.long q2), .second, .val (.long q3), .second, .val (.int q4), .val (.int (q4 &&& (63 : Int32))), .unset, .unset, .unset]) rfl k) ?_
  show own_Go p.tables e below K (s₁.setTop (mkF m 7 #[.val (.long q1), .second, .val (.long q2), .second, .val (.long q3), .second, .val (.int q4), .val (.int (q4 &&& (63 : Int32))), .unset, .unset, .unset] []))
  refine own_by (fun t k => X0.ldc2Long hx hown (mvT hZ (hw _ (List.mem_of_getElem? (i := 0) rfl))) (g := (mkF m 7 #[.val (.long q1), .second, .val (.long q2), .second, .val (.long q3), .second, .val (.int q4), .val (.int (q4 &&& (63 : Int32))), .unset, .unset, .unset] [])) rfl (hb hby at_7) _ k) ?_
  show own_Go p.tables e below K (s₁.setTop (mkF m 10 #[.val (.long q1), .second, .val (.long q2), .second, .val (.long q3), .second, .val (.int q4), .val (.int (q4 &&& (63 : Int32))), .unset, .unset, .unset] [(.long (-1 : Int64))]))
  refine own_by (fun t k => XS.lloadN X0.here hx rfl (hb hby at_10) rfl k) ?_
  show own_Go p.tables e below K (s₁.setTop (mkF m 11 #[.val (.long q1), .second, .val (.long q2), .second, .val (.long q3), .second, .val (.int q4), .val (.int (q4 &&& (63 : Int32))), .unset, .unset, .unset] [(.long q2), (.long (-1 : Int64))]))
  obtain ⟨_, _, ⟨T1, L1, k1, n1⟩, -, X1, ⟨Lc1, hQ1, l1, y1, z1⟩, st1⟩ := Jvm.LawKit.callS X0 hx (y := (⟨"com/example/predicate/predicate/engine/ValueBits", "mayMeet", "(JJ)Z"⟩ : MethodName)) hown (mvT hZ (hw _ (List.mem_of_getElem? (i := 1) rfl))) (mvT hZ (hw _ (List.mem_of_getElem? (i := 2) rfl))) (mvT hZ (hw _ (List.mem_of_getElem? (i := 3) rfl))) (mvT hZ (hw _ (List.mem_of_getElem? (i := 4) rfl))) (by decide) (backOf (W := 0) (own_rm1 l Z a0 hw [] (-1 : Int64) q2 h0 n0 Z0) hZ (hw _ (List.mem_of_getElem? (i := 4) rfl)) (hw _ (List.mem_of_getElem? (i := 3) rfl)) (by decide) (by decide)) (g := (mkF m 11 #[.val (.long q1), .second, .val (.long q2), .second, .val (.long q3), .second, .val (.int q4), .val (.int (q4 &&& (63 : Int32))), .unset, .unset, .unset] [(.long q2), (.long (-1 : Int64))])) rfl (by rw [hml]; rfl) (argsL := [(.long (-1 : Int64)), (.long q2)]) (rest := []) (lenOf own_pd0 rfl) rfl (by show 2 * 0 + _ ≤ _; exact Nat.le_of_eq rfl) (hb hby at_11) (fun _ _ => ⟨rfl, e0, (by decide : 0 + 0 ≤ _), (by decide : 0 + 0 ≤ _)⟩)
  dsimp only [Pt.U, Pt.locs, Pt.cells, Pt.slots] at X1 l1 y1 z1 st1 hQ1
  subst l1 y1 z1
  obtain ⟨rfl, N1q, e1⟩ := hQ1
  have N1 := Fr.app N0 N1q
  refine own_by st1 ?_
  rw [own_mm_m]
  show own_Go p.tables e below K (T1.setTop (mkF m 14 #[.val (.long q1), .second, .val (.long q2), .second, .val (.long q3), .second, .val (.int q4), .val (.int (q4 &&& (63 : Int32))), .unset, .unset, .unset] [(.int (1 : Int32))]))
  refine own_by (fun t k => XS.istore X1.here hx rfl (hb hby at_14) rfl (l' := #[.val (.long q1), .second, .val (.long q2), .second, .val (.long q3), .second, .val (.int q4), .val (.int (q4 &&& (63 : Int32))), .val (.int (1 : Int32)), .unset, .unset]) rfl k) ?_
  show own_Go p.tables e below K (T1.setTop (mkF m 16 #[.val (.long q1), .second, .val (.long q2), .second, .val (.long q3), .second, .val (.int q4), .val (.int (q4 &&& (63 : Int32))), .val (.int (1 : Int32)), .unset, .unset] []))
  refine own_by (fun t k => XS.iload X1.here hx rfl (hb hby at_16) rfl k) ?_
  show own_Go p.tables e below K (T1.setTop (mkF m 18 #[.val (.long q1), .second, .val (.long q2), .second, .val (.long q3), .second, .val (.int q4), .val (.int (q4 &&& (63 : Int32))), .val (.int (1 : Int32)), .unset, .unset] [(.int (1 : Int32))]))
  refine own_by (fun t k => XS.lconst X1.here hx rfl (hb hby at_18) k) ?_
  show own_Go p.tables e below K (T1.setTop (mkF m 19 #[.val (.long q1), .second, .val (.long q2), .second, .val (.long q3), .second, .val (.int q4), .val (.int (q4 &&& (63 : Int32))), .val (.int (1 : Int32)), .unset, .unset] [(.long (0 : Int64)), (.int (1 : Int32))]))
  refine own_by (fun t k => XS.lloadN X1.here hx rfl (hb hby at_19) rfl k) ?_
  show own_Go p.tables e below K (T1.setTop (mkF m 20 #[.val (.long q1), .second, .val (.long q2), .second, .val (.long q3), .second, .val (.int q4), .val (.int (q4 &&& (63 : Int32))), .val (.int (1 : Int32)), .unset, .unset] [(.long q2), (.long (0 : Int64)), (.int (1 : Int32))]))
  obtain ⟨_, _, ⟨T2, L2, k2, n2⟩, -, X2, ⟨Lc2, hQ2, l2, y2, z2⟩, st2⟩ := Jvm.LawKit.callS X1 hx (y := (⟨"com/example/predicate/predicate/engine/ValueBits", "mayMeet", "(JJ)Z"⟩ : MethodName)) hown (mvT hZ (hw _ (List.mem_of_getElem? (i := 1) rfl))) (mvT hZ (hw _ (List.mem_of_getElem? (i := 2) rfl))) (mvT hZ (hw _ (List.mem_of_getElem? (i := 3) rfl))) (mvT hZ (hw _ (List.mem_of_getElem? (i := 4) rfl))) (by decide) (backOf (W := 1) (own_rm1 l Z a0 hw [] (0 : Int64) q2 h0 n0 Z0) hZ (hw _ (List.mem_of_getElem? (i := 4) rfl)) (hw _ (List.mem_of_getElem? (i := 3) rfl)) (by decide) (by decide)) (g := (mkF m 20 #[.val (.long q1), .second, .val (.long q2), .second, .val (.long q3), .second, .val (.int q4), .val (.int (q4 &&& (63 : Int32))), .val (.int (1 : Int32)), .unset, .unset] [(.long q2), (.long (0 : Int64)), (.int (1 : Int32))])) rfl (by rw [hml]; rfl) (argsL := [(.long (0 : Int64)), (.long q2)]) (rest := [(.int (1 : Int32))]) (lenOf own_pd0 rfl) rfl (by show 2 * 0 + _ ≤ _; exact Nat.le_of_eq rfl) (hb hby at_20) (fun _ _ => ⟨rfl, e1, (by decide : 0 + 0 ≤ _), (by decide : 0 + 0 ≤ _)⟩)
  dsimp only [Pt.U, Pt.locs, Pt.cells, Pt.slots] at X2 l2 y2 z2 st2 hQ2
  subst l2 y2 z2
  obtain ⟨rfl, N2q, e2⟩ := hQ2
  have N2 := Fr.app N1 N2q
  refine own_by st2 ?_
  show own_Go p.tables e below K (T2.setTop (mkF m 23 #[.val (.long q1), .second, .val (.long q2), .second, .val (.long q3), .second, .val (.int q4), .val (.int (q4 &&& (63 : Int32))), .val (.int (1 : Int32)), .unset, .unset] [(.int (own_mm (0 : Int64) q2)), (.int (1 : Int32))]))
  have hc23 : (own_mm (0 : Int64) q2) = (0 : Int32) := own_mm_z q2
  refine own_by (fun t k => XS.ifNo X2.here hx rfl (hb hby at_23) rfl ((if0 _ _).trans (teq hc23).2) k) ?_
  show own_Go p.tables e below K (T2.setTop (mkF m 26 #[.val (.long q1), .second, .val (.long q2), .second, .val (.long q3), .second, .val (.int q4), .val (.int (q4 &&& (63 : Int32))), .val (.int (1 : Int32)), .unset, .unset] [(.int (1 : Int32))]))
  refine own_by (fun t k => XS.iconst X2.here hx rfl (hb hby at_26) k) ?_
  show own_Go p.tables e below K (T2.setTop (mkF m 27 #[.val (.long q1), .second, .val (.long q2), .second, .val (.long q3), .second, .val (.int q4), .val (.int (q4 &&& (63 : Int32))), .val (.int (1 : Int32)), .unset, .unset] [(.int (1 : Int32)), (.int (1 : Int32))]))
  refine own_by (fun t k => XS.goto X2.here hx rfl (pc0 := 27) (pc' := 31) rfl (hb hby at_27) (by decide) (by decide) k) ?_
  show own_Go p.tables e below K (T2.setTop (mkF m 31 #[.val (.long q1), .second, .val (.long q2), .second, .val (.long q3), .second, .val (.int q4), .val (.int (q4 &&& (63 : Int32))), .val (.int (1 : Int32)), .unset, .unset] [(.int (1 : Int32)), (.int (1 : Int32))]))
  refine own_by (fun t k => XS.iand X2.here hx rfl (hb hby at_31) rfl k) ?_
  show own_Go p.tables e below K (T2.setTop (mkF m 32 #[.val (.long q1), .second, .val (.long q2), .second, .val (.long q3), .second, .val (.int q4), .val (.int (q4 &&& (63 : Int32))), .val (.int (1 : Int32)), .unset, .unset] [(.int (1 : Int32))]))
  refine own_by (fun t k => XS.istore X2.here hx rfl (hb hby at_32) rfl (l' := #[.val (.long q1), .second, .val (.long q2), .second, .val (.long q3), .second, .val (.int q4), .val (.int (q4 &&& (63 : Int32))), .val (.int (1 : Int32)), .unset, .unset]) rfl k) ?_
  show own_Go p.tables e below K (T2.setTop (mkF m 34 #[.val (.long q1), .second, .val (.long q2), .second, .val (.long q3), .second, .val (.int q4), .val (.int (q4 &&& (63 : Int32))), .val (.int (1 : Int32)), .unset, .unset] []))
  refine own_by (fun t k => XS.lloadN X2.here hx rfl (hb hby at_34) rfl k) ?_
  show own_Go p.tables e below K (T2.setTop (mkF m 35 #[.val (.long q1), .second, .val (.long q2), .second, .val (.long q3), .second, .val (.int q4), .val (.int (q4 &&& (63 : Int32))), .val (.int (1 : Int32)), .unset, .unset] [(.long q1)]))
  refine own_by (fun t k => X2.ldc2Long hx hown (mvT hZ (hw _ (List.mem_of_getElem? (i := 0) rfl))) (g := (mkF m 35 #[.val (.long q1), .second, .val (.long q2), .second, .val (.long q3), .second, .val (.int q4), .val (.int (q4 &&& (63 : Int32))), .val (.int (1 : Int32)), .unset, .unset] [(.long q1)])) rfl (hb hby at_35) _ k) ?_
  show own_Go p.tables e below K (T2.setTop (mkF m 38 #[.val (.long q1), .second, .val (.long q2), .second, .val (.long q3), .second, .val (.int q4), .val (.int (q4 &&& (63 : Int32))), .val (.int (1 : Int32)), .unset, .unset] [(.long (-1 : Int64)), (.long q1)]))
  refine own_by (fun t k => XS.lcmp X2.here hx rfl (hb hby at_38) rfl k) ?_
  show own_Go p.tables e below K (T2.setTop (mkF m 39 #[.val (.long q1), .second, .val (.long q2), .second, .val (.long q3), .second, .val (.int q4), .val (.int (q4 &&& (63 : Int32))), .val (.int (1 : Int32)), .unset, .unset] [(.int (lcmpW q1 (-1 : Int64)))]))
  by_cases hc39 : q1 = (-1 : Int64)
  · refine own_by (fun t k => XS.ifYes X2.here hx rfl (pc0 := 39) (pc' := 198) rfl (hb hby at_39) rfl (own_leq hc39).1 (by decide) (by decide) k) ?_
    show own_Go p.tables e below K (T2.setTop (mkF m 198 #[.val (.long q1), .second, .val (.long q2), .second, .val (.long q3), .second, .val (.int q4), .val (.int (q4 &&& (63 : Int32))), .val (.int (1 : Int32)), .unset, .unset] []))
    refine own_by (fun t k => XS.iload X2.here hx rfl (hb hby at_198) rfl k) ?_
    show own_Go p.tables e below K (T2.setTop (mkF m 200 #[.val (.long q1), .second, .val (.long q2), .second, .val (.long q3), .second, .val (.int q4), .val (.int (q4 &&& (63 : Int32))), .val (.int (1 : Int32)), .unset, .unset] [(.int (1 : Int32))]))
    exact own_retZ X2 hx (t := .boolean) hret (by simp) (hb hby at_200) (hK (some (.int (1 : Int32))) X2 (fun h => by rw [hret] at h; cases h) ⟨rfl, N2⟩ (by decide) (by decide))
  · refine own_by (fun t k => XS.ifNo X2.here hx rfl (hb hby at_39) rfl (own_lne hc39).1 k) ?_
    show own_Go p.tables e below K (T2.setTop (mkF m 42 #[.val (.long q1), .second, .val (.long q2), .second, .val (.long q3), .second, .val (.int q4), .val (.int (q4 &&& (63 : Int32))), .val (.int (1 : Int32)), .unset, .unset] []))
    refine own_by (fun t k => XS.iload X2.here hx rfl (hb hby at_42) rfl k) ?_
    show own_Go p.tables e below K (T2.setTop (mkF m 44 #[.val (.long q1), .second, .val (.long q2), .second, .val (.long q3), .second, .val (.int q4), .val (.int (q4 &&& (63 : Int32))), .val (.int (1 : Int32)), .unset, .unset] [(.int (1 : Int32))]))
    refine own_by (fun t k => XS.lloadN X2.here hx rfl (hb hby at_44) rfl k) ?_
    show own_Go p.tables e below K (T2.setTop (mkF m 45 #[.val (.long q1), .second, .val (.long q2), .second, .val (.long q3), .second, .val (.int q4), .val (.int (q4 &&& (63 : Int32))), .val (.int (1 : Int32)), .unset, .unset] [(.long q1), (.int (1 : Int32))]))
    refine own_by (fun t k => XS.lconst X2.here hx rfl (hb hby at_45) k) ?_
    show own_Go p.tables e below K (T2.setTop (mkF m 46 #[.val (.long q1), .second, .val (.long q2), .second, .val (.long q3), .second, .val (.int q4), .val (.int (q4 &&& (63 : Int32))), .val (.int (1 : Int32)), .unset, .unset] [(.long (0 : Int64)), (.long q1), (.int (1 : Int32))]))
    obtain ⟨_, _, ⟨T3, L3, k3, n3⟩, -, X3, ⟨Lc3, hQ3, l3, y3, z3⟩, st3⟩ := Jvm.LawKit.callS X2 hx (y := (⟨"com/example/predicate/predicate/engine/ValueBits", "mayMeet", "(JJ)Z"⟩ : MethodName)) hown (mvT hZ (hw _ (List.mem_of_getElem? (i := 1) rfl))) (mvT hZ (hw _ (List.mem_of_getElem? (i := 2) rfl))) (mvT hZ (hw _ (List.mem_of_getElem? (i := 3) rfl))) (mvT hZ (hw _ (List.mem_of_getElem? (i := 4) rfl))) (by decide) (backOf (W := 1) (own_rm1 l Z a0 hw [] q1 (0 : Int64) h0 n0 Z0) hZ (hw _ (List.mem_of_getElem? (i := 4) rfl)) (hw _ (List.mem_of_getElem? (i := 3) rfl)) (by decide) (by decide)) (g := (mkF m 46 #[.val (.long q1), .second, .val (.long q2), .second, .val (.long q3), .second, .val (.int q4), .val (.int (q4 &&& (63 : Int32))), .val (.int (1 : Int32)), .unset, .unset] [(.long (0 : Int64)), (.long q1), (.int (1 : Int32))])) rfl (by rw [hml]; rfl) (argsL := [(.long q1), (.long (0 : Int64))]) (rest := [(.int (1 : Int32))]) (lenOf own_pd0 rfl) rfl (by show 2 * 0 + _ ≤ _; exact Nat.le_of_eq rfl) (hb hby at_46) (fun _ _ => ⟨rfl, e2, (by decide : 0 + 0 ≤ _), (by decide : 0 + 0 ≤ _)⟩)
    dsimp only [Pt.U, Pt.locs, Pt.cells, Pt.slots] at X3 l3 y3 z3 st3 hQ3
    subst l3 y3 z3
    obtain ⟨rfl, N3q, e3⟩ := hQ3
    have N3 := Fr.app N2 N3q
    refine own_by st3 ?_
    show own_Go p.tables e below K (T3.setTop (mkF m 49 #[.val (.long q1), .second, .val (.long q2), .second, .val (.long q3), .second, .val (.int q4), .val (.int (q4 &&& (63 : Int32))), .val (.int (1 : Int32)), .unset, .unset] [(.int (own_mm q1 (0 : Int64))), (.int (1 : Int32))]))
    have hc49 : (own_mm q1 (0 : Int64)) = (0 : Int32) := own_mm_0 hc39
    refine own_by (fun t k => XS.ifNo X3.here hx rfl (hb hby at_49) rfl ((if0 _ _).trans (teq hc49).2) k) ?_
    show own_Go p.tables e below K (T3.setTop (mkF m 52 #[.val (.long q1), .second, .val (.long q2), .second, .val (.long q3), .second, .val (.int q4), .val (.int (q4 &&& (63 : Int32))), .val (.int (1 : Int32)), .unset, .unset] [(.int (1 : Int32))]))
    refine own_by (fun t k => XS.iconst X3.here hx rfl (hb hby at_52) k) ?_
    show own_Go p.tables e below K (T3.setTop (mkF m 53 #[.val (.long q1), .second, .val (.long q2), .second, .val (.long q3), .second, .val (.int q4), .val (.int (q4 &&& (63 : Int32))), .val (.int (1 : Int32)), .unset, .unset] [(.int (1 : Int32)), (.int (1 : Int32))]))
    refine own_by (fun t k => XS.goto X3.here hx rfl (pc0 := 53) (pc' := 57) rfl (hb hby at_53) (by decide) (by decide) k) ?_
    show own_Go p.tables e below K (T3.setTop (mkF m 57 #[.val (.long q1), .second, .val (.long q2), .second, .val (.long q3), .second, .val (.int q4), .val (.int (q4 &&& (63 : Int32))), .val (.int (1 : Int32)), .unset, .unset] [(.int (1 : Int32)), (.int (1 : Int32))]))
    refine own_by (fun t k => XS.iand X3.here hx rfl (hb hby at_57) rfl k) ?_
    show own_Go p.tables e below K (T3.setTop (mkF m 58 #[.val (.long q1), .second, .val (.long q2), .second, .val (.long q3), .second, .val (.int q4), .val (.int (q4 &&& (63 : Int32))), .val (.int (1 : Int32)), .unset, .unset] [(.int (1 : Int32))]))
    refine own_by (fun t k => XS.istore X3.here hx rfl (hb hby at_58) rfl (l' := #[.val (.long q1), .second, .val (.long q2), .second, .val (.long q3), .second, .val (.int q4), .val (.int (q4 &&& (63 : Int32))), .val (.int (1 : Int32)), .unset, .unset]) rfl k) ?_
    show own_Go p.tables e below K (T3.setTop (mkF m 60 #[.val (.long q1), .second, .val (.long q2), .second, .val (.long q3), .second, .val (.int q4), .val (.int (q4 &&& (63 : Int32))), .val (.int (1 : Int32)), .unset, .unset] []))
    refine own_by (fun t k => XS.iload X3.here hx rfl (hb hby at_60) rfl k) ?_
    show own_Go p.tables e below K (T3.setTop (mkF m 62 #[.val (.long q1), .second, .val (.long q2), .second, .val (.long q3), .second, .val (.int q4), .val (.int (q4 &&& (63 : Int32))), .val (.int (1 : Int32)), .unset, .unset] [(.int (1 : Int32))]))
    refine own_by (fun t k => XS.lloadN X3.here hx rfl (hb hby at_62) rfl k) ?_
    show own_Go p.tables e below K (T3.setTop (mkF m 63 #[.val (.long q1), .second, .val (.long q2), .second, .val (.long q3), .second, .val (.int q4), .val (.int (q4 &&& (63 : Int32))), .val (.int (1 : Int32)), .unset, .unset] [(.long q1), (.int (1 : Int32))]))
    refine own_by (fun t k => XS.lloadN X3.here hx rfl (hb hby at_63) rfl k) ?_
    show own_Go p.tables e below K (T3.setTop (mkF m 64 #[.val (.long q1), .second, .val (.long q2), .second, .val (.long q3), .second, .val (.int q4), .val (.int (q4 &&& (63 : Int32))), .val (.int (1 : Int32)), .unset, .unset] [(.long q1), (.long q1), (.int (1 : Int32))]))
    refine own_by (fun t k => X3.ldc2Long hx hown (mvT hZ (hw _ (List.mem_of_getElem? (i := 0) rfl))) (g := (mkF m 64 #[.val (.long q1), .second, .val (.long q2), .second, .val (.long q3), .second, .val (.int q4), .val (.int (q4 &&& (63 : Int32))), .val (.int (1 : Int32)), .unset, .unset] [(.long q1), (.long q1), (.int (1 : Int32))])) rfl (hb hby at_64) _ k) ?_
    show own_Go p.tables e below K (T3.setTop (mkF m 67 #[.val (.long q1), .second, .val (.long q2), .second, .val (.long q3), .second, .val (.int q4), .val (.int (q4 &&& (63 : Int32))), .val (.int (1 : Int32)), .unset, .unset] [(.long (-1 : Int64)), (.long q1), (.long q1), (.int (1 : Int32))]))
    refine own_by (fun t k => XS.lxor X3.here hx rfl (hb hby at_67) rfl k) ?_
    show own_Go p.tables e below K (T3.setTop (mkF m 68 #[.val (.long q1), .second, .val (.long q2), .second, .val (.long q3), .second, .val (.int q4), .val (.int (q4 &&& (63 : Int32))), .val (.int (1 : Int32)), .unset, .unset] [(.long (q1 ^^^ (-1 : Int64))), (.long q1), (.int (1 : Int32))]))
    obtain ⟨_, _, ⟨T4, L4, k4, n4⟩, -, X4, ⟨Lc4, hQ4, l4, y4, z4⟩, st4⟩ := Jvm.LawKit.callS X3 hx (y := (⟨"com/example/predicate/predicate/engine/ValueBits", "mayMeet", "(JJ)Z"⟩ : MethodName)) hown (mvT hZ (hw _ (List.mem_of_getElem? (i := 1) rfl))) (mvT hZ (hw _ (List.mem_of_getElem? (i := 2) rfl))) (mvT hZ (hw _ (List.mem_of_getElem? (i := 3) rfl))) (mvT hZ (hw _ (List.mem_of_getElem? (i := 4) rfl))) (by decide) (backOf (W := 1) (own_rm1 l Z a0 hw [] q1 (q1 ^^^ (-1 : Int64)) h0 n0 Z0) hZ (hw _ (List.mem_of_getElem? (i := 4) rfl)) (hw _ (List.mem_of_getElem? (i := 3) rfl)) (by decide) (by decide)) (g := (mkF m 68 #[.val (.long q1), .second, .val (.long q2), .second, .val (.long q3), .second, .val (.int q4), .val (.int (q4 &&& (63 : Int32))), .val (.int (1 : Int32)), .unset, .unset] [(.long (q1 ^^^ (-1 : Int64))), (.long q1), (.int (1 : Int32))])) rfl (by rw [hml]; rfl) (argsL := [(.long q1), (.long (q1 ^^^ (-1 : Int64)))]) (rest := [(.int (1 : Int32))]) (lenOf own_pd0 rfl) rfl (by show 2 * 0 + _ ≤ _; exact Nat.le_of_eq rfl) (hb hby at_68) (fun _ _ => ⟨rfl, e3, (by decide : 0 + 0 ≤ _), (by decide : 0 + 0 ≤ _)⟩)
    dsimp only [Pt.U, Pt.locs, Pt.cells, Pt.slots] at X4 l4 y4 z4 st4 hQ4
    subst l4 y4 z4
    obtain ⟨rfl, N4q, e4⟩ := hQ4
    have N4 := Fr.app N3 N4q
    refine own_by st4 ?_
    show own_Go p.tables e below K (T4.setTop (mkF m 71 #[.val (.long q1), .second, .val (.long q2), .second, .val (.long q3), .second, .val (.int q4), .val (.int (q4 &&& (63 : Int32))), .val (.int (1 : Int32)), .unset, .unset] [(.int (own_mm q1 (q1 ^^^ (-1 : Int64)))), (.int (1 : Int32))]))
    have hc71 : (own_mm q1 (q1 ^^^ (-1 : Int64))) = (0 : Int32) := own_mm_n hc39
    refine own_by (fun t k => XS.ifNo X4.here hx rfl (hb hby at_71) rfl ((if0 _ _).trans (teq hc71).2) k) ?_
    show own_Go p.tables e below K (T4.setTop (mkF m 74 #[.val (.long q1), .second, .val (.long q2), .second, .val (.long q3), .second, .val (.int q4), .val (.int (q4 &&& (63 : Int32))), .val (.int (1 : Int32)), .unset, .unset] [(.int (1 : Int32))]))
    refine own_by (fun t k => XS.iconst X4.here hx rfl (hb hby at_74) k) ?_
    show own_Go p.tables e below K (T4.setTop (mkF m 75 #[.val (.long q1), .second, .val (.long q2), .second, .val (.long q3), .second, .val (.int q4), .val (.int (q4 &&& (63 : Int32))), .val (.int (1 : Int32)), .unset, .unset] [(.int (1 : Int32)), (.int (1 : Int32))]))
    refine own_by (fun t k => XS.goto X4.here hx rfl (pc0 := 75) (pc' := 79) rfl (hb hby at_75) (by decide) (by decide) k) ?_
    show own_Go p.tables e below K (T4.setTop (mkF m 79 #[.val (.long q1), .second, .val (.long q2), .second, .val (.long q3), .second, .val (.int q4), .val (.int (q4 &&& (63 : Int32))), .val (.int (1 : Int32)), .unset, .unset] [(.int (1 : Int32)), (.int (1 : Int32))]))
    refine own_by (fun t k => XS.iand X4.here hx rfl (hb hby at_79) rfl k) ?_
    show own_Go p.tables e below K (T4.setTop (mkF m 80 #[.val (.long q1), .second, .val (.long q2), .second, .val (.long q3), .second, .val (.int q4), .val (.int (q4 &&& (63 : Int32))), .val (.int (1 : Int32)), .unset, .unset] [(.int (1 : Int32))]))
    refine own_by (fun t k => XS.istore X4.here hx rfl (hb hby at_80) rfl (l' := #[.val (.long q1), .second, .val (.long q2), .second, .val (.long q3), .second, .val (.int q4), .val (.int (q4 &&& (63 : Int32))), .val (.int (1 : Int32)), .unset, .unset]) rfl k) ?_
    show own_Go p.tables e below K (T4.setTop (mkF m 82 #[.val (.long q1), .second, .val (.long q2), .second, .val (.long q3), .second, .val (.int q4), .val (.int (q4 &&& (63 : Int32))), .val (.int (1 : Int32)), .unset, .unset] []))
    refine own_by (fun t k => XS.iload X4.here hx rfl (hb hby at_82) rfl k) ?_
    show own_Go p.tables e below K (T4.setTop (mkF m 84 #[.val (.long q1), .second, .val (.long q2), .second, .val (.long q3), .second, .val (.int q4), .val (.int (q4 &&& (63 : Int32))), .val (.int (1 : Int32)), .unset, .unset] [(.int (1 : Int32))]))
    refine own_by (fun t k => XS.lloadN X4.here hx rfl (hb hby at_84) rfl k) ?_
    show own_Go p.tables e below K (T4.setTop (mkF m 85 #[.val (.long q1), .second, .val (.long q2), .second, .val (.long q3), .second, .val (.int q4), .val (.int (q4 &&& (63 : Int32))), .val (.int (1 : Int32)), .unset, .unset] [(.long q1), (.int (1 : Int32))]))
    refine own_by (fun t k => XS.lconst X4.here hx rfl (hb hby at_85) k) ?_
    show own_Go p.tables e below K (T4.setTop (mkF m 86 #[.val (.long q1), .second, .val (.long q2), .second, .val (.long q3), .second, .val (.int q4), .val (.int (q4 &&& (63 : Int32))), .val (.int (1 : Int32)), .unset, .unset] [(.long (1 : Int64)), (.long q1), (.int (1 : Int32))]))
    refine own_by (fun t k => XS.iload X4.here hx rfl (hb hby at_86) rfl k) ?_
    show own_Go p.tables e below K (T4.setTop (mkF m 88 #[.val (.long q1), .second, .val (.long q2), .second, .val (.long q3), .second, .val (.int q4), .val (.int (q4 &&& (63 : Int32))), .val (.int (1 : Int32)), .unset, .unset] [(.int (q4 &&& (63 : Int32))), (.long (1 : Int64)), (.long q1), (.int (1 : Int32))]))
    refine own_by (fun t k => XS.lshl X4.here hx rfl (hb hby at_88) rfl k) ?_
    show own_Go p.tables e below K (T4.setTop (mkF m 89 #[.val (.long q1), .second, .val (.long q2), .second, .val (.long q3), .second, .val (.int q4), .val (.int (q4 &&& (63 : Int32))), .val (.int (1 : Int32)), .unset, .unset] [(.long ((1 : Int64) <<< ((q4 &&& (63 : Int32)) &&& 0x3f).toInt64)), (.long q1), (.int (1 : Int32))]))
    obtain ⟨_, _, ⟨T5, L5, k5, n5⟩, -, X5, ⟨Lc5, hQ5, l5, y5, z5⟩, st5⟩ := Jvm.LawKit.callS X4 hx (y := (⟨"com/example/predicate/predicate/engine/ValueBits", "mayMeet", "(JJ)Z"⟩ : MethodName)) hown (mvT hZ (hw _ (List.mem_of_getElem? (i := 1) rfl))) (mvT hZ (hw _ (List.mem_of_getElem? (i := 2) rfl))) (mvT hZ (hw _ (List.mem_of_getElem? (i := 3) rfl))) (mvT hZ (hw _ (List.mem_of_getElem? (i := 4) rfl))) (by decide) (backOf (W := 1) (own_rm1 l Z a0 hw [] q1 ((1 : Int64) <<< ((q4 &&& (63 : Int32)) &&& 0x3f).toInt64) h0 n0 Z0) hZ (hw _ (List.mem_of_getElem? (i := 4) rfl)) (hw _ (List.mem_of_getElem? (i := 3) rfl)) (by decide) (by decide)) (g := (mkF m 89 #[.val (.long q1), .second, .val (.long q2), .second, .val (.long q3), .second, .val (.int q4), .val (.int (q4 &&& (63 : Int32))), .val (.int (1 : Int32)), .unset, .unset] [(.long ((1 : Int64) <<< ((q4 &&& (63 : Int32)) &&& 0x3f).toInt64)), (.long q1), (.int (1 : Int32))])) rfl (by rw [hml]; rfl) (argsL := [(.long q1), (.long ((1 : Int64) <<< ((q4 &&& (63 : Int32)) &&& 0x3f).toInt64))]) (rest := [(.int (1 : Int32))]) (lenOf own_pd0 rfl) rfl (by show 2 * 0 + _ ≤ _; exact Nat.le_of_eq rfl) (hb hby at_89) (fun _ _ => ⟨rfl, e4, (by decide : 0 + 0 ≤ _), (by decide : 0 + 0 ≤ _)⟩)
    dsimp only [Pt.U, Pt.locs, Pt.cells, Pt.slots] at X5 l5 y5 z5 st5 hQ5
    subst l5 y5 z5
    obtain ⟨rfl, N5q, e5⟩ := hQ5
    have N5 := Fr.app N4 N5q
    refine own_by st5 ?_
    have J108 : ∀ bx : Int32, (own_mm q1 ((1 : Int64) <<< ((q4 &&& (63 : Int32)) &&& 0x3f).toInt64)) = bx → own_Go p.tables e below K (T5.setTop (mkF m 108 #[.val (.long q1), .second, .val (.long q2), .second, .val (.long q3), .second, .val (.int q4), .val (.int (q4 &&& (63 : Int32))), .val (.int (1 : Int32)), .unset, .unset] [(.int bx), (.int (own_mm q1 ((1 : Int64) <<< ((q4 &&& (63 : Int32)) &&& 0x3f).toInt64))), (.int (1 : Int32))])) := by
      intro bx hbx
      show own_Go p.tables e below K (T5.setTop (mkF m 108 #[.val (.long q1), .second, .val (.long q2), .second, .val (.long q3), .second, .val (.int q4), .val (.int (q4 &&& (63 : Int32))), .val (.int (1 : Int32)), .unset, .unset] [(.int bx), (.int (own_mm q1 ((1 : Int64) <<< ((q4 &&& (63 : Int32)) &&& 0x3f).toInt64))), (.int (1 : Int32))]))
      have hc108 : (own_mm q1 ((1 : Int64) <<< ((q4 &&& (63 : Int32)) &&& 0x3f).toInt64)) = bx := hbx
      refine own_by (fun t k => XS.icmpNo X5.here hx rfl (hb hby at_108) rfl (teq hc108).2 k) ?_
      show own_Go p.tables e below K (T5.setTop (mkF m 111 #[.val (.long q1), .second, .val (.long q2), .second, .val (.long q3), .second, .val (.int q4), .val (.int (q4 &&& (63 : Int32))), .val (.int (1 : Int32)), .unset, .unset] [(.int (1 : Int32))]))
      refine own_by (fun t k => XS.iconst X5.here hx rfl (hb hby at_111) k) ?_
      show own_Go p.tables e below K (T5.setTop (mkF m 112 #[.val (.long q1), .second, .val (.long q2), .second, .val (.long q3), .second, .val (.int q4), .val (.int (q4 &&& (63 : Int32))), .val (.int (1 : Int32)), .unset, .unset] [(.int (1 : Int32)), (.int (1 : Int32))]))
      refine own_by (fun t k => XS.goto X5.here hx rfl (pc0 := 112) (pc' := 116) rfl (hb hby at_112) (by decide) (by decide) k) ?_
      show own_Go p.tables e below K (T5.setTop (mkF m 116 #[.val (.long q1), .second, .val (.long q2), .second, .val (.long q3), .second, .val (.int q4), .val (.int (q4 &&& (63 : Int32))), .val (.int (1 : Int32)), .unset, .unset] [(.int (1 : Int32)), (.int (1 : Int32))]))
      refine own_by (fun t k => XS.iand X5.here hx rfl (hb hby at_116) rfl k) ?_
      show own_Go p.tables e below K (T5.setTop (mkF m 117 #[.val (.long q1), .second, .val (.long q2), .second, .val (.long q3), .second, .val (.int q4), .val (.int (q4 &&& (63 : Int32))), .val (.int (1 : Int32)), .unset, .unset] [(.int (1 : Int32))]))
      refine own_by (fun t k => XS.istore X5.here hx rfl (hb hby at_117) rfl (l' := #[.val (.long q1), .second, .val (.long q2), .second, .val (.long q3), .second, .val (.int q4), .val (.int (q4 &&& (63 : Int32))), .val (.int (1 : Int32)), .unset, .unset]) rfl k) ?_
      show own_Go p.tables e below K (T5.setTop (mkF m 119 #[.val (.long q1), .second, .val (.long q2), .second, .val (.long q3), .second, .val (.int q4), .val (.int (q4 &&& (63 : Int32))), .val (.int (1 : Int32)), .unset, .unset] []))
      refine own_by (fun t k => XS.lloadN X5.here hx rfl (hb hby at_119) rfl k) ?_
      show own_Go p.tables e below K (T5.setTop (mkF m 120 #[.val (.long q1), .second, .val (.long q2), .second, .val (.long q3), .second, .val (.int q4), .val (.int (q4 &&& (63 : Int32))), .val (.int (1 : Int32)), .unset, .unset] [(.long q1)]))
      refine own_by (fun t k => XS.lloadN X5.here hx rfl (hb hby at_120) rfl k) ?_
      show own_Go p.tables e below K (T5.setTop (mkF m 121 #[.val (.long q1), .second, .val (.long q2), .second, .val (.long q3), .second, .val (.int q4), .val (.int (q4 &&& (63 : Int32))), .val (.int (1 : Int32)), .unset, .unset] [(.long q2), (.long q1)]))
      obtain ⟨_, _, ⟨T6, L6, k6, n6⟩, -, X6, ⟨Lc6, hQ6, l6, y6, z6⟩, st6⟩ := Jvm.LawKit.callS X5 hx (y := (⟨"com/example/predicate/predicate/engine/ValueBits", "mayMeet", "(JJ)Z"⟩ : MethodName)) hown (mvT hZ (hw _ (List.mem_of_getElem? (i := 1) rfl))) (mvT hZ (hw _ (List.mem_of_getElem? (i := 2) rfl))) (mvT hZ (hw _ (List.mem_of_getElem? (i := 3) rfl))) (mvT hZ (hw _ (List.mem_of_getElem? (i := 4) rfl))) (by decide) (backOf (W := 0) (own_rm1 l Z a0 hw [] q1 q2 h0 n0 Z0) hZ (hw _ (List.mem_of_getElem? (i := 4) rfl)) (hw _ (List.mem_of_getElem? (i := 3) rfl)) (by decide) (by decide)) (g := (mkF m 121 #[.val (.long q1), .second, .val (.long q2), .second, .val (.long q3), .second, .val (.int q4), .val (.int (q4 &&& (63 : Int32))), .val (.int (1 : Int32)), .unset, .unset] [(.long q2), (.long q1)])) rfl (by rw [hml]; rfl) (argsL := [(.long q1), (.long q2)]) (rest := []) (lenOf own_pd0 rfl) rfl (by show 2 * 0 + _ ≤ _; exact Nat.le_of_eq rfl) (hb hby at_121) (fun _ _ => ⟨rfl, e5, (by decide : 0 + 0 ≤ _), (by decide : 0 + 0 ≤ _)⟩)
      dsimp only [Pt.U, Pt.locs, Pt.cells, Pt.slots] at X6 l6 y6 z6 st6 hQ6
      subst l6 y6 z6
      obtain ⟨rfl, N6q, e6⟩ := hQ6
      have N6 := Fr.app N5 N6q
      refine own_by st6 ?_
      show own_Go p.tables e below K (T6.setTop (mkF m 124 #[.val (.long q1), .second, .val (.long q2), .second, .val (.long q3), .second, .val (.int q4), .val (.int (q4 &&& (63 : Int32))), .val (.int (1 : Int32)), .unset, .unset] [(.int (own_mm q1 q2))]))
      refine own_by (fun t k => XS.istore X6.here hx rfl (hb hby at_124) rfl (l' := #[.val (.long q1), .second, .val (.long q2), .second, .val (.long q3), .second, .val (.int q4), .val (.int (q4 &&& (63 : Int32))), .val (.int (1 : Int32)), .val (.int (own_mm q1 q2)), .unset]) rfl k) ?_
      show own_Go p.tables e below K (T6.setTop (mkF m 126 #[.val (.long q1), .second, .val (.long q2), .second, .val (.long q3), .second, .val (.int q4), .val (.int (q4 &&& (63 : Int32))), .val (.int (1 : Int32)), .val (.int (own_mm q1 q2)), .unset] []))
      refine own_by (fun t k => XS.lloadN X6.here hx rfl (hb hby at_126) rfl k) ?_
      show own_Go p.tables e below K (T6.setTop (mkF m 127 #[.val (.long q1), .second, .val (.long q2), .second, .val (.long q3), .second, .val (.int q4), .val (.int (q4 &&& (63 : Int32))), .val (.int (1 : Int32)), .val (.int (own_mm q1 q2)), .unset] [(.long q1)]))
      refine own_by (fun t k => XS.lload X6.here hx rfl (hb hby at_127) rfl k) ?_
      show own_Go p.tables e below K (T6.setTop (mkF m 129 #[.val (.long q1), .second, .val (.long q2), .second, .val (.long q3), .second, .val (.int q4), .val (.int (q4 &&& (63 : Int32))), .val (.int (1 : Int32)), .val (.int (own_mm q1 q2)), .unset] [(.long q3), (.long q1)]))
      obtain ⟨_, _, ⟨T7, L7, k7, n7⟩, -, X7, ⟨Lc7, hQ7, l7, y7, z7⟩, st7⟩ := Jvm.LawKit.callS X6 hx (y := (⟨"com/example/predicate/predicate/engine/ValueBits", "mayMeet", "(JJ)Z"⟩ : MethodName)) hown (mvT hZ (hw _ (List.mem_of_getElem? (i := 1) rfl))) (mvT hZ (hw _ (List.mem_of_getElem? (i := 2) rfl))) (mvT hZ (hw _ (List.mem_of_getElem? (i := 3) rfl))) (mvT hZ (hw _ (List.mem_of_getElem? (i := 4) rfl))) (by decide) (backOf (W := 0) (own_rm1 l Z a0 hw [] q1 q3 h0 n0 Z0) hZ (hw _ (List.mem_of_getElem? (i := 4) rfl)) (hw _ (List.mem_of_getElem? (i := 3) rfl)) (by decide) (by decide)) (g := (mkF m 129 #[.val (.long q1), .second, .val (.long q2), .second, .val (.long q3), .second, .val (.int q4), .val (.int (q4 &&& (63 : Int32))), .val (.int (1 : Int32)), .val (.int (own_mm q1 q2)), .unset] [(.long q3), (.long q1)])) rfl (by rw [hml]; rfl) (argsL := [(.long q1), (.long q3)]) (rest := []) (lenOf own_pd0 rfl) rfl (by show 2 * 0 + _ ≤ _; exact Nat.le_of_eq rfl) (hb hby at_129) (fun _ _ => ⟨rfl, e6, (by decide : 0 + 0 ≤ _), (by decide : 0 + 0 ≤ _)⟩)
      dsimp only [Pt.U, Pt.locs, Pt.cells, Pt.slots] at X7 l7 y7 z7 st7 hQ7
      subst l7 y7 z7
      obtain ⟨rfl, N7q, e7⟩ := hQ7
      have N7 := Fr.app N6 N7q
      refine own_by st7 ?_
      show own_Go p.tables e below K (T7.setTop (mkF m 132 #[.val (.long q1), .second, .val (.long q2), .second, .val (.long q3), .second, .val (.int q4), .val (.int (q4 &&& (63 : Int32))), .val (.int (1 : Int32)), .val (.int (own_mm q1 q2)), .unset] [(.int (own_mm q1 q3))]))
      refine own_by (fun t k => XS.istore X7.here hx rfl (hb hby at_132) rfl (l' := #[.val (.long q1), .second, .val (.long q2), .second, .val (.long q3), .second, .val (.int q4), .val (.int (q4 &&& (63 : Int32))), .val (.int (1 : Int32)), .val (.int (own_mm q1 q2)), .val (.int (own_mm q1 q3))]) rfl k) ?_
      show own_Go p.tables e below K (T7.setTop (mkF m 134 #[.val (.long q1), .second, .val (.long q2), .second, .val (.long q3), .second, .val (.int q4), .val (.int (q4 &&& (63 : Int32))), .val (.int (1 : Int32)), .val (.int (own_mm q1 q2)), .val (.int (own_mm q1 q3))] []))
      refine own_by (fun t k => XS.iload X7.here hx rfl (hb hby at_134) rfl k) ?_
      show own_Go p.tables e below K (T7.setTop (mkF m 136 #[.val (.long q1), .second, .val (.long q2), .second, .val (.long q3), .second, .val (.int q4), .val (.int (q4 &&& (63 : Int32))), .val (.int (1 : Int32)), .val (.int (own_mm q1 q2)), .val (.int (own_mm q1 q3))] [(.int (1 : Int32))]))
      refine own_by (fun t k => XS.lloadN X7.here hx rfl (hb hby at_136) rfl k) ?_
      show own_Go p.tables e below K (T7.setTop (mkF m 137 #[.val (.long q1), .second, .val (.long q2), .second, .val (.long q3), .second, .val (.int q4), .val (.int (q4 &&& (63 : Int32))), .val (.int (1 : Int32)), .val (.int (own_mm q1 q2)), .val (.int (own_mm q1 q3))] [(.long q1), (.int (1 : Int32))]))
      refine own_by (fun t k => XS.lloadN X7.here hx rfl (hb hby at_137) rfl k) ?_
      show own_Go p.tables e below K (T7.setTop (mkF m 138 #[.val (.long q1), .second, .val (.long q2), .second, .val (.long q3), .second, .val (.int q4), .val (.int (q4 &&& (63 : Int32))), .val (.int (1 : Int32)), .val (.int (own_mm q1 q2)), .val (.int (own_mm q1 q3))] [(.long q2), (.long q1), (.int (1 : Int32))]))
      refine own_by (fun t k => XS.lload X7.here hx rfl (hb hby at_138) rfl k) ?_
      show own_Go p.tables e below K (T7.setTop (mkF m 140 #[.val (.long q1), .second, .val (.long q2), .second, .val (.long q3), .second, .val (.int q4), .val (.int (q4 &&& (63 : Int32))), .val (.int (1 : Int32)), .val (.int (own_mm q1 q2)), .val (.int (own_mm q1 q3))] [(.long q3), (.long q2), (.long q1), (.int (1 : Int32))]))
      refine own_by (fun t k => XS.lor X7.here hx rfl (hb hby at_140) rfl k) ?_
      show own_Go p.tables e below K (T7.setTop (mkF m 141 #[.val (.long q1), .second, .val (.long q2), .second, .val (.long q3), .second, .val (.int q4), .val (.int (q4 &&& (63 : Int32))), .val (.int (1 : Int32)), .val (.int (own_mm q1 q2)), .val (.int (own_mm q1 q3))] [(.long (q2 ||| q3)), (.long q1), (.int (1 : Int32))]))
      obtain ⟨_, _, ⟨T8, L8, k8, n8⟩, -, X8, ⟨Lc8, hQ8, l8, y8, z8⟩, st8⟩ := Jvm.LawKit.callS X7 hx (y := (⟨"com/example/predicate/predicate/engine/ValueBits", "mayMeet", "(JJ)Z"⟩ : MethodName)) hown (mvT hZ (hw _ (List.mem_of_getElem? (i := 1) rfl))) (mvT hZ (hw _ (List.mem_of_getElem? (i := 2) rfl))) (mvT hZ (hw _ (List.mem_of_getElem? (i := 3) rfl))) (mvT hZ (hw _ (List.mem_of_getElem? (i := 4) rfl))) (by decide) (backOf (W := 1) (own_rm1 l Z a0 hw [] q1 (q2 ||| q3) h0 n0 Z0) hZ (hw _ (List.mem_of_getElem? (i := 4) rfl)) (hw _ (List.mem_of_getElem? (i := 3) rfl)) (by decide) (by decide)) (g := (mkF m 141 #[.val (.long q1), .second, .val (.long q2), .second, .val (.long q3), .second, .val (.int q4), .val (.int (q4 &&& (63 : Int32))), .val (.int (1 : Int32)), .val (.int (own_mm q1 q2)), .val (.int (own_mm q1 q3))] [(.long (q2 ||| q3)), (.long q1), (.int (1 : Int32))])) rfl (by rw [hml]; rfl) (argsL := [(.long q1), (.long (q2 ||| q3))]) (rest := [(.int (1 : Int32))]) (lenOf own_pd0 rfl) rfl (by show 2 * 0 + _ ≤ _; exact Nat.le_of_eq rfl) (hb hby at_141) (fun _ _ => ⟨rfl, e7, (by decide : 0 + 0 ≤ _), (by decide : 0 + 0 ≤ _)⟩)
      dsimp only [Pt.U, Pt.locs, Pt.cells, Pt.slots] at X8 l8 y8 z8 st8 hQ8
      subst l8 y8 z8
      obtain ⟨rfl, N8q, e8⟩ := hQ8
      have N8 := Fr.app N7 N8q
      refine own_by st8 ?_
      have J159 : ∀ bx : Int32, (own_mm q1 (q2 ||| q3)) = bx → own_Go p.tables e below K (T8.setTop (mkF m 159 #[.val (.long q1), .second, .val (.long q2), .second, .val (.long q3), .second, .val (.int q4), .val (.int (q4 &&& (63 : Int32))), .val (.int (1 : Int32)), .val (.int (own_mm q1 q2)), .val (.int (own_mm q1 q3))] [(.int bx), (.int (own_mm q1 (q2 ||| q3))), (.int (1 : Int32))])) := by
        intro bx hbx
        show own_Go p.tables e below K (T8.setTop (mkF m 159 #[.val (.long q1), .second, .val (.long q2), .second, .val (.long q3), .second, .val (.int q4), .val (.int (q4 &&& (63 : Int32))), .val (.int (1 : Int32)), .val (.int (own_mm q1 q2)), .val (.int (own_mm q1 q3))] [(.int bx), (.int (own_mm q1 (q2 ||| q3))), (.int (1 : Int32))]))
        have hc159 : (own_mm q1 (q2 ||| q3)) = bx := hbx
        refine own_by (fun t k => XS.icmpNo X8.here hx rfl (hb hby at_159) rfl (teq hc159).2 k) ?_
        show own_Go p.tables e below K (T8.setTop (mkF m 162 #[.val (.long q1), .second, .val (.long q2), .second, .val (.long q3), .second, .val (.int q4), .val (.int (q4 &&& (63 : Int32))), .val (.int (1 : Int32)), .val (.int (own_mm q1 q2)), .val (.int (own_mm q1 q3))] [(.int (1 : Int32))]))
        refine own_by (fun t k => XS.iconst X8.here hx rfl (hb hby at_162) k) ?_
        show own_Go p.tables e below K (T8.setTop (mkF m 163 #[.val (.long q1), .second, .val (.long q2), .second, .val (.long q3), .second, .val (.int q4), .val (.int (q4 &&& (63 : Int32))), .val (.int (1 : Int32)), .val (.int (own_mm q1 q2)), .val (.int (own_mm q1 q3))] [(.int (1 : Int32)), (.int (1 : Int32))]))
        refine own_by (fun t k => XS.goto X8.here hx rfl (pc0 := 163) (pc' := 167) rfl (hb hby at_163) (by decide) (by decide) k) ?_
        show own_Go p.tables e below K (T8.setTop (mkF m 167 #[.val (.long q1), .second, .val (.long q2), .second, .val (.long q3), .second, .val (.int q4), .val (.int (q4 &&& (63 : Int32))), .val (.int (1 : Int32)), .val (.int (own_mm q1 q2)), .val (.int (own_mm q1 q3))] [(.int (1 : Int32)), (.int (1 : Int32))]))
        refine own_by (fun t k => XS.iand X8.here hx rfl (hb hby at_167) rfl k) ?_
        show own_Go p.tables e below K (T8.setTop (mkF m 168 #[.val (.long q1), .second, .val (.long q2), .second, .val (.long q3), .second, .val (.int q4), .val (.int (q4 &&& (63 : Int32))), .val (.int (1 : Int32)), .val (.int (own_mm q1 q2)), .val (.int (own_mm q1 q3))] [(.int (1 : Int32))]))
        refine own_by (fun t k => XS.istore X8.here hx rfl (hb hby at_168) rfl (l' := #[.val (.long q1), .second, .val (.long q2), .second, .val (.long q3), .second, .val (.int q4), .val (.int (q4 &&& (63 : Int32))), .val (.int (1 : Int32)), .val (.int (own_mm q1 q2)), .val (.int (own_mm q1 q3))]) rfl k) ?_
        show own_Go p.tables e below K (T8.setTop (mkF m 170 #[.val (.long q1), .second, .val (.long q2), .second, .val (.long q3), .second, .val (.int q4), .val (.int (q4 &&& (63 : Int32))), .val (.int (1 : Int32)), .val (.int (own_mm q1 q2)), .val (.int (own_mm q1 q3))] []))
        refine own_by (fun t k => XS.lloadN X8.here hx rfl (hb hby at_170) rfl k) ?_
        show own_Go p.tables e below K (T8.setTop (mkF m 171 #[.val (.long q1), .second, .val (.long q2), .second, .val (.long q3), .second, .val (.int q4), .val (.int (q4 &&& (63 : Int32))), .val (.int (1 : Int32)), .val (.int (own_mm q1 q2)), .val (.int (own_mm q1 q3))] [(.long q2)]))
        refine own_by (fun t k => X8.ldc2Long hx hown (mvT hZ (hw _ (List.mem_of_getElem? (i := 0) rfl))) (g := (mkF m 171 #[.val (.long q1), .second, .val (.long q2), .second, .val (.long q3), .second, .val (.int q4), .val (.int (q4 &&& (63 : Int32))), .val (.int (1 : Int32)), .val (.int (own_mm q1 q2)), .val (.int (own_mm q1 q3))] [(.long q2)])) rfl (hb hby at_171) _ k) ?_
        show own_Go p.tables e below K (T8.setTop (mkF m 174 #[.val (.long q1), .second, .val (.long q2), .second, .val (.long q3), .second, .val (.int q4), .val (.int (q4 &&& (63 : Int32))), .val (.int (1 : Int32)), .val (.int (own_mm q1 q2)), .val (.int (own_mm q1 q3))] [(.long (-1 : Int64)), (.long q2)]))
        refine own_by (fun t k => XS.lcmp X8.here hx rfl (hb hby at_174) rfl k) ?_
        show own_Go p.tables e below K (T8.setTop (mkF m 175 #[.val (.long q1), .second, .val (.long q2), .second, .val (.long q3), .second, .val (.int q4), .val (.int (q4 &&& (63 : Int32))), .val (.int (1 : Int32)), .val (.int (own_mm q1 q2)), .val (.int (own_mm q1 q3))] [(.int (lcmpW q2 (-1 : Int64)))]))
        by_cases hc175 : q2 = (-1 : Int64)
        · refine own_by (fun t k => XS.ifYes X8.here hx rfl (pc0 := 175) (pc' := 198) rfl (hb hby at_175) rfl (own_leq hc175).1 (by decide) (by decide) k) ?_
          show own_Go p.tables e below K (T8.setTop (mkF m 198 #[.val (.long q1), .second, .val (.long q2), .second, .val (.long q3), .second, .val (.int q4), .val (.int (q4 &&& (63 : Int32))), .val (.int (1 : Int32)), .val (.int (own_mm q1 q2)), .val (.int (own_mm q1 q3))] []))
          refine own_by (fun t k => XS.iload X8.here hx rfl (hb hby at_198) rfl k) ?_
          show own_Go p.tables e below K (T8.setTop (mkF m 200 #[.val (.long q1), .second, .val (.long q2), .second, .val (.long q3), .second, .val (.int q4), .val (.int (q4 &&& (63 : Int32))), .val (.int (1 : Int32)), .val (.int (own_mm q1 q2)), .val (.int (own_mm q1 q3))] [(.int (1 : Int32))]))
          exact own_retZ X8 hx (t := .boolean) hret (by simp) (hb hby at_200) (hK (some (.int (1 : Int32))) X8 (fun h => by rw [hret] at h; cases h) ⟨rfl, N8⟩ (by decide) (by decide))
        · refine own_by (fun t k => XS.ifNo X8.here hx rfl (hb hby at_175) rfl (own_lne hc175).1 k) ?_
          show own_Go p.tables e below K (T8.setTop (mkF m 178 #[.val (.long q1), .second, .val (.long q2), .second, .val (.long q3), .second, .val (.int q4), .val (.int (q4 &&& (63 : Int32))), .val (.int (1 : Int32)), .val (.int (own_mm q1 q2)), .val (.int (own_mm q1 q3))] []))
          refine own_by (fun t k => XS.iload X8.here hx rfl (hb hby at_178) rfl k) ?_
          show own_Go p.tables e below K (T8.setTop (mkF m 180 #[.val (.long q1), .second, .val (.long q2), .second, .val (.long q3), .second, .val (.int q4), .val (.int (q4 &&& (63 : Int32))), .val (.int (1 : Int32)), .val (.int (own_mm q1 q2)), .val (.int (own_mm q1 q3))] [(.int (1 : Int32))]))
          refine own_by (fun t k => XS.iload X8.here hx rfl (hb hby at_180) rfl k) ?_
          show own_Go p.tables e below K (T8.setTop (mkF m 182 #[.val (.long q1), .second, .val (.long q2), .second, .val (.long q3), .second, .val (.int q4), .val (.int (q4 &&& (63 : Int32))), .val (.int (1 : Int32)), .val (.int (own_mm q1 q2)), .val (.int (own_mm q1 q3))] [(.int (own_mm q1 q2)), (.int (1 : Int32))]))
          refine own_by (fun t k => XS.lloadN X8.here hx rfl (hb hby at_182) rfl k) ?_
          show own_Go p.tables e below K (T8.setTop (mkF m 183 #[.val (.long q1), .second, .val (.long q2), .second, .val (.long q3), .second, .val (.int q4), .val (.int (q4 &&& (63 : Int32))), .val (.int (1 : Int32)), .val (.int (own_mm q1 q2)), .val (.int (own_mm q1 q3))] [(.long q2), (.int (own_mm q1 q2)), (.int (1 : Int32))]))
          refine own_by (fun t k => XS.lloadN X8.here hx rfl (hb hby at_183) rfl k) ?_
          show own_Go p.tables e below K (T8.setTop (mkF m 184 #[.val (.long q1), .second, .val (.long q2), .second, .val (.long q3), .second, .val (.int q4), .val (.int (q4 &&& (63 : Int32))), .val (.int (1 : Int32)), .val (.int (own_mm q1 q2)), .val (.int (own_mm q1 q3))] [(.long q1), (.long q2), (.int (own_mm q1 q2)), (.int (1 : Int32))]))
          obtain ⟨_, _, ⟨T9, L9, k9, n9⟩, -, X9, ⟨Lc9, hQ9, l9, y9, z9⟩, st9⟩ := Jvm.LawKit.callS X8 hx (y := (⟨"com/example/predicate/predicate/engine/ValueBits", "mayMeet", "(JJ)Z"⟩ : MethodName)) hown (mvT hZ (hw _ (List.mem_of_getElem? (i := 1) rfl))) (mvT hZ (hw _ (List.mem_of_getElem? (i := 2) rfl))) (mvT hZ (hw _ (List.mem_of_getElem? (i := 3) rfl))) (mvT hZ (hw _ (List.mem_of_getElem? (i := 4) rfl))) (by decide) (backOf (W := 2) (own_rm1 l Z a0 hw [] q2 q1 h0 n0 Z0) hZ (hw _ (List.mem_of_getElem? (i := 4) rfl)) (hw _ (List.mem_of_getElem? (i := 3) rfl)) (by decide) (by decide)) (g := (mkF m 184 #[.val (.long q1), .second, .val (.long q2), .second, .val (.long q3), .second, .val (.int q4), .val (.int (q4 &&& (63 : Int32))), .val (.int (1 : Int32)), .val (.int (own_mm q1 q2)), .val (.int (own_mm q1 q3))] [(.long q1), (.long q2), (.int (own_mm q1 q2)), (.int (1 : Int32))])) rfl (by rw [hml]; rfl) (argsL := [(.long q2), (.long q1)]) (rest := [(.int (own_mm q1 q2)), (.int (1 : Int32))]) (lenOf own_pd0 rfl) rfl (by show 2 * 0 + _ ≤ _; exact Nat.le_of_eq rfl) (hb hby at_184) (fun _ _ => ⟨rfl, e8, (by decide : 0 + 0 ≤ _), (by decide : 0 + 0 ≤ _)⟩)
          dsimp only [Pt.U, Pt.locs, Pt.cells, Pt.slots] at X9 l9 y9 z9 st9 hQ9
          subst l9 y9 z9
          obtain ⟨rfl, N9q, e9⟩ := hQ9
          have N9 := Fr.app N8 N9q
          refine own_by st9 ?_
          show own_Go p.tables e below K (T9.setTop (mkF m 187 #[.val (.long q1), .second, .val (.long q2), .second, .val (.long q3), .second, .val (.int q4), .val (.int (q4 &&& (63 : Int32))), .val (.int (1 : Int32)), .val (.int (own_mm q1 q2)), .val (.int (own_mm q1 q3))] [(.int (own_mm q2 q1)), (.int (own_mm q1 q2)), (.int (1 : Int32))]))
          have hc187 : (own_mm q1 q2) = (own_mm q2 q1) := own_mm_c hc39 hc175
          refine own_by (fun t k => XS.icmpNo X9.here hx rfl (hb hby at_187) rfl (teq hc187).2 k) ?_
          show own_Go p.tables e below K (T9.setTop (mkF m 190 #[.val (.long q1), .second, .val (.long q2), .second, .val (.long q3), .second, .val (.int q4), .val (.int (q4 &&& (63 : Int32))), .val (.int (1 : Int32)), .val (.int (own_mm q1 q2)), .val (.int (own_mm q1 q3))] [(.int (1 : Int32))]))
          refine own_by (fun t k => XS.iconst X9.here hx rfl (hb hby at_190) k) ?_
          show own_Go p.tables e below K (T9.setTop (mkF m 191 #[.val (.long q1), .second, .val (.long q2), .second, .val (.long q3), .second, .val (.int q4), .val (.int (q4 &&& (63 : Int32))), .val (.int (1 : Int32)), .val (.int (own_mm q1 q2)), .val (.int (own_mm q1 q3))] [(.int (1 : Int32)), (.int (1 : Int32))]))
          refine own_by (fun t k => XS.goto X9.here hx rfl (pc0 := 191) (pc' := 195) rfl (hb hby at_191) (by decide) (by decide) k) ?_
          show own_Go p.tables e below K (T9.setTop (mkF m 195 #[.val (.long q1), .second, .val (.long q2), .second, .val (.long q3), .second, .val (.int q4), .val (.int (q4 &&& (63 : Int32))), .val (.int (1 : Int32)), .val (.int (own_mm q1 q2)), .val (.int (own_mm q1 q3))] [(.int (1 : Int32)), (.int (1 : Int32))]))
          refine own_by (fun t k => XS.iand X9.here hx rfl (hb hby at_195) rfl k) ?_
          show own_Go p.tables e below K (T9.setTop (mkF m 196 #[.val (.long q1), .second, .val (.long q2), .second, .val (.long q3), .second, .val (.int q4), .val (.int (q4 &&& (63 : Int32))), .val (.int (1 : Int32)), .val (.int (own_mm q1 q2)), .val (.int (own_mm q1 q3))] [(.int (1 : Int32))]))
          refine own_by (fun t k => XS.istore X9.here hx rfl (hb hby at_196) rfl (l' := #[.val (.long q1), .second, .val (.long q2), .second, .val (.long q3), .second, .val (.int q4), .val (.int (q4 &&& (63 : Int32))), .val (.int (1 : Int32)), .val (.int (own_mm q1 q2)), .val (.int (own_mm q1 q3))]) rfl k) ?_
          show own_Go p.tables e below K (T9.setTop (mkF m 198 #[.val (.long q1), .second, .val (.long q2), .second, .val (.long q3), .second, .val (.int q4), .val (.int (q4 &&& (63 : Int32))), .val (.int (1 : Int32)), .val (.int (own_mm q1 q2)), .val (.int (own_mm q1 q3))] []))
          refine own_by (fun t k => XS.iload X9.here hx rfl (hb hby at_198) rfl k) ?_
          show own_Go p.tables e below K (T9.setTop (mkF m 200 #[.val (.long q1), .second, .val (.long q2), .second, .val (.long q3), .second, .val (.int q4), .val (.int (q4 &&& (63 : Int32))), .val (.int (1 : Int32)), .val (.int (own_mm q1 q2)), .val (.int (own_mm q1 q3))] [(.int (1 : Int32))]))
          exact own_retZ X9 hx (t := .boolean) hret (by simp) (hb hby at_200) (hK (some (.int (1 : Int32))) X9 (fun h => by rw [hret] at h; cases h) ⟨rfl, N9⟩ (by decide) (by decide))
      show own_Go p.tables e below K (T8.setTop (mkF m 144 #[.val (.long q1), .second, .val (.long q2), .second, .val (.long q3), .second, .val (.int q4), .val (.int (q4 &&& (63 : Int32))), .val (.int (1 : Int32)), .val (.int (own_mm q1 q2)), .val (.int (own_mm q1 q3))] [(.int (own_mm q1 (q2 ||| q3))), (.int (1 : Int32))]))
      refine own_by (fun t k => XS.iload X8.here hx rfl (hb hby at_144) rfl k) ?_
      show own_Go p.tables e below K (T8.setTop (mkF m 146 #[.val (.long q1), .second, .val (.long q2), .second, .val (.long q3), .second, .val (.int q4), .val (.int (q4 &&& (63 : Int32))), .val (.int (1 : Int32)), .val (.int (own_mm q1 q2)), .val (.int (own_mm q1 q3))] [(.int (own_mm q1 q2)), (.int (own_mm q1 (q2 ||| q3))), (.int (1 : Int32))]))
      by_cases hc146 : (own_mm q1 q2) = (0 : Int32)
      · refine own_by (fun t k => XS.ifNo X8.here hx rfl (hb hby at_146) rfl ((if0 _ _).trans (teq hc146).2) k) ?_
        show own_Go p.tables e below K (T8.setTop (mkF m 149 #[.val (.long q1), .second, .val (.long q2), .second, .val (.long q3), .second, .val (.int q4), .val (.int (q4 &&& (63 : Int32))), .val (.int (1 : Int32)), .val (.int (own_mm q1 q2)), .val (.int (own_mm q1 q3))] [(.int (own_mm q1 (q2 ||| q3))), (.int (1 : Int32))]))
        refine own_by (fun t k => XS.iload X8.here hx rfl (hb hby at_149) rfl k) ?_
        show own_Go p.tables e below K (T8.setTop (mkF m 151 #[.val (.long q1), .second, .val (.long q2), .second, .val (.long q3), .second, .val (.int q4), .val (.int (q4 &&& (63 : Int32))), .val (.int (1 : Int32)), .val (.int (own_mm q1 q2)), .val (.int (own_mm q1 q3))] [(.int (own_mm q1 q3)), (.int (own_mm q1 (q2 ||| q3))), (.int (1 : Int32))]))
        by_cases hc151 : (own_mm q1 q3) = (0 : Int32)
        · refine own_by (fun t k => XS.ifYes X8.here hx rfl (pc0 := 151) (pc' := 158) rfl (hb hby at_151) rfl ((if0 _ _).trans (teq hc151).1) (by decide) (by decide) k) ?_
          show own_Go p.tables e below K (T8.setTop (mkF m 158 #[.val (.long q1), .second, .val (.long q2), .second, .val (.long q3), .second, .val (.int q4), .val (.int (q4 &&& (63 : Int32))), .val (.int (1 : Int32)), .val (.int (own_mm q1 q2)), .val (.int (own_mm q1 q3))] [(.int (own_mm q1 (q2 ||| q3))), (.int (1 : Int32))]))
          refine own_by (fun t k => XS.iconst X8.here hx rfl (hb hby at_158) k) ?_
          exact J159 (0 : Int32) (by rw [own_mm_o hc39]; simp [*])
        · refine own_by (fun t k => XS.ifNo X8.here hx rfl (hb hby at_151) rfl ((if0 _ _).trans (feq hc151).1) k) ?_
          show own_Go p.tables e below K (T8.setTop (mkF m 154 #[.val (.long q1), .second, .val (.long q2), .second, .val (.long q3), .second, .val (.int q4), .val (.int (q4 &&& (63 : Int32))), .val (.int (1 : Int32)), .val (.int (own_mm q1 q2)), .val (.int (own_mm q1 q3))] [(.int (own_mm q1 (q2 ||| q3))), (.int (1 : Int32))]))
          refine own_by (fun t k => XS.iconst X8.here hx rfl (hb hby at_154) k) ?_
          show own_Go p.tables e below K (T8.setTop (mkF m 155 #[.val (.long q1), .second, .val (.long q2), .second, .val (.long q3), .second, .val (.int q4), .val (.int (q4 &&& (63 : Int32))), .val (.int (1 : Int32)), .val (.int (own_mm q1 q2)), .val (.int (own_mm q1 q3))] [(.int (1 : Int32)), (.int (own_mm q1 (q2 ||| q3))), (.int (1 : Int32))]))
          refine own_by (fun t k => XS.goto X8.here hx rfl (pc0 := 155) (pc' := 159) rfl (hb hby at_155) (by decide) (by decide) k) ?_
          exact J159 (1 : Int32) (by rw [own_mm_o hc39]; simp [*])
      · refine own_by (fun t k => XS.ifYes X8.here hx rfl (pc0 := 146) (pc' := 154) rfl (hb hby at_146) rfl ((if0 _ _).trans (feq hc146).2) (by decide) (by decide) k) ?_
        show own_Go p.tables e below K (T8.setTop (mkF m 154 #[.val (.long q1), .second, .val (.long q2), .second, .val (.long q3), .second, .val (.int q4), .val (.int (q4 &&& (63 : Int32))), .val (.int (1 : Int32)), .val (.int (own_mm q1 q2)), .val (.int (own_mm q1 q3))] [(.int (own_mm q1 (q2 ||| q3))), (.int (1 : Int32))]))
        refine own_by (fun t k => XS.iconst X8.here hx rfl (hb hby at_154) k) ?_
        show own_Go p.tables e below K (T8.setTop (mkF m 155 #[.val (.long q1), .second, .val (.long q2), .second, .val (.long q3), .second, .val (.int q4), .val (.int (q4 &&& (63 : Int32))), .val (.int (1 : Int32)), .val (.int (own_mm q1 q2)), .val (.int (own_mm q1 q3))] [(.int (1 : Int32)), (.int (own_mm q1 (q2 ||| q3))), (.int (1 : Int32))]))
        refine own_by (fun t k => XS.goto X8.here hx rfl (pc0 := 155) (pc' := 159) rfl (hb hby at_155) (by decide) (by decide) k) ?_
        exact J159 (1 : Int32) (by rw [own_mm_o hc39]; simp [*])
    show own_Go p.tables e below K (T5.setTop (mkF m 92 #[.val (.long q1), .second, .val (.long q2), .second, .val (.long q3), .second, .val (.int q4), .val (.int (q4 &&& (63 : Int32))), .val (.int (1 : Int32)), .unset, .unset] [(.int (own_mm q1 ((1 : Int64) <<< ((q4 &&& (63 : Int32)) &&& 0x3f).toInt64))), (.int (1 : Int32))]))
    refine own_by (fun t k => XS.lloadN X5.here hx rfl (hb hby at_92) rfl k) ?_
    show own_Go p.tables e below K (T5.setTop (mkF m 93 #[.val (.long q1), .second, .val (.long q2), .second, .val (.long q3), .second, .val (.int q4), .val (.int (q4 &&& (63 : Int32))), .val (.int (1 : Int32)), .unset, .unset] [(.long q1), (.int (own_mm q1 ((1 : Int64) <<< ((q4 &&& (63 : Int32)) &&& 0x3f).toInt64))), (.int (1 : Int32))]))
    refine own_by (fun t k => XS.iload X5.here hx rfl (hb hby at_93) rfl k) ?_
    show own_Go p.tables e below K (T5.setTop (mkF m 95 #[.val (.long q1), .second, .val (.long q2), .second, .val (.long q3), .second, .val (.int q4), .val (.int (q4 &&& (63 : Int32))), .val (.int (1 : Int32)), .unset, .unset] [(.int (q4 &&& (63 : Int32))), (.long q1), (.int (own_mm q1 ((1 : Int64) <<< ((q4 &&& (63 : Int32)) &&& 0x3f).toInt64))), (.int (1 : Int32))]))
    refine own_by (fun t k => XS.lushr X5.here hx rfl (hb hby at_95) rfl k) ?_
    show own_Go p.tables e below K (T5.setTop (mkF m 96 #[.val (.long q1), .second, .val (.long q2), .second, .val (.long q3), .second, .val (.int q4), .val (.int (q4 &&& (63 : Int32))), .val (.int (1 : Int32)), .unset, .unset] [(.long ((q1.toUInt64 >>> ((q4 &&& (63 : Int32)) &&& 0x3f).toInt64.toUInt64).toInt64)), (.int (own_mm q1 ((1 : Int64) <<< ((q4 &&& (63 : Int32)) &&& 0x3f).toInt64))), (.int (1 : Int32))]))
    refine own_by (fun t k => XS.lconst X5.here hx rfl (hb hby at_96) k) ?_
    show own_Go p.tables e below K (T5.setTop (mkF m 97 #[.val (.long q1), .second, .val (.long q2), .second, .val (.long q3), .second, .val (.int q4), .val (.int (q4 &&& (63 : Int32))), .val (.int (1 : Int32)), .unset, .unset] [(.long (1 : Int64)), (.long ((q1.toUInt64 >>> ((q4 &&& (63 : Int32)) &&& 0x3f).toInt64.toUInt64).toInt64)), (.int (own_mm q1 ((1 : Int64) <<< ((q4 &&& (63 : Int32)) &&& 0x3f).toInt64))), (.int (1 : Int32))]))
    refine own_by (fun t k => XS.land X5.here hx rfl (hb hby at_97) rfl k) ?_
    show own_Go p.tables e below K (T5.setTop (mkF m 98 #[.val (.long q1), .second, .val (.long q2), .second, .val (.long q3), .second, .val (.int q4), .val (.int (q4 &&& (63 : Int32))), .val (.int (1 : Int32)), .unset, .unset] [(.long (((q1.toUInt64 >>> ((q4 &&& (63 : Int32)) &&& 0x3f).toInt64.toUInt64).toInt64) &&& (1 : Int64))), (.int (own_mm q1 ((1 : Int64) <<< ((q4 &&& (63 : Int32)) &&& 0x3f).toInt64))), (.int (1 : Int32))]))
    refine own_by (fun t k => XS.lconst X5.here hx rfl (hb hby at_98) k) ?_
    show own_Go p.tables e below K (T5.setTop (mkF m 99 #[.val (.long q1), .second, .val (.long q2), .second, .val (.long q3), .second, .val (.int q4), .val (.int (q4 &&& (63 : Int32))), .val (.int (1 : Int32)), .unset, .unset] [(.long (0 : Int64)), (.long (((q1.toUInt64 >>> ((q4 &&& (63 : Int32)) &&& 0x3f).toInt64.toUInt64).toInt64) &&& (1 : Int64))), (.int (own_mm q1 ((1 : Int64) <<< ((q4 &&& (63 : Int32)) &&& 0x3f).toInt64))), (.int (1 : Int32))]))
    refine own_by (fun t k => XS.lcmp X5.here hx rfl (hb hby at_99) rfl k) ?_
    show own_Go p.tables e below K (T5.setTop (mkF m 100 #[.val (.long q1), .second, .val (.long q2), .second, .val (.long q3), .second, .val (.int q4), .val (.int (q4 &&& (63 : Int32))), .val (.int (1 : Int32)), .unset, .unset] [(.int (lcmpW (((q1.toUInt64 >>> ((q4 &&& (63 : Int32)) &&& 0x3f).toInt64.toUInt64).toInt64) &&& (1 : Int64)) (0 : Int64))), (.int (own_mm q1 ((1 : Int64) <<< ((q4 &&& (63 : Int32)) &&& 0x3f).toInt64))), (.int (1 : Int32))]))
    by_cases hc100 : (((q1.toUInt64 >>> ((q4 &&& (63 : Int32)) &&& 0x3f).toInt64.toUInt64).toInt64) &&& (1 : Int64)) = (0 : Int64)
    · refine own_by (fun t k => XS.ifYes X5.here hx rfl (pc0 := 100) (pc' := 107) rfl (hb hby at_100) rfl (own_leq hc100).1 (by decide) (by decide) k) ?_
      show own_Go p.tables e below K (T5.setTop (mkF m 107 #[.val (.long q1), .second, .val (.long q2), .second, .val (.long q3), .second, .val (.int q4), .val (.int (q4 &&& (63 : Int32))), .val (.int (1 : Int32)), .unset, .unset] [(.int (own_mm q1 ((1 : Int64) <<< ((q4 &&& (63 : Int32)) &&& 0x3f).toInt64))), (.int (1 : Int32))]))
      refine own_by (fun t k => XS.iconst X5.here hx rfl (hb hby at_107) k) ?_
      exact J108 (0 : Int32) (by rw [own_mm_b hc39]; simp only [hc100]; rfl)
    · refine own_by (fun t k => XS.ifNo X5.here hx rfl (hb hby at_100) rfl (own_lne hc100).1 k) ?_
      show own_Go p.tables e below K (T5.setTop (mkF m 103 #[.val (.long q1), .second, .val (.long q2), .second, .val (.long q3), .second, .val (.int q4), .val (.int (q4 &&& (63 : Int32))), .val (.int (1 : Int32)), .unset, .unset] [(.int (own_mm q1 ((1 : Int64) <<< ((q4 &&& (63 : Int32)) &&& 0x3f).toInt64))), (.int (1 : Int32))]))
      refine own_by (fun t k => XS.iconst X5.here hx rfl (hb hby at_103) k) ?_
      show own_Go p.tables e below K (T5.setTop (mkF m 104 #[.val (.long q1), .second, .val (.long q2), .second, .val (.long q3), .second, .val (.int q4), .val (.int (q4 &&& (63 : Int32))), .val (.int (1 : Int32)), .unset, .unset] [(.int (1 : Int32)), (.int (own_mm q1 ((1 : Int64) <<< ((q4 &&& (63 : Int32)) &&& 0x3f).toInt64))), (.int (1 : Int32))]))
      refine own_by (fun t k => XS.goto X5.here hx rfl (pc0 := 104) (pc' := 108) rfl (hb hby at_104) (by decide) (by decide) k) ?_
      exact J108 (1 : Int32) (by rw [own_mm_b hc39]; simp only [hc100]; rfl)
set_option maxRecDepth 65536 in
set_option maxHeartbeats 40000000 in
theorem own_comes {Post : Tables → Env → Array Value → State → Outcome → State → Prop} (hpost : ∀ tb e args s v u, (limb_1_1.after args s (.returned v) u = true ∧ limb_1_2.after args s (.returned v) u = true ∧ True) → FrameEnd s (.returned v) u (Jvm.fieldLocs frame_1_writes args s ++ Jvm.arrayLocs frame_1_arrays args s ++ Jvm.staticLocs frame_1_statics s) 0 0 → Post tb e args s (.returned v) u) :
    ArmFor flags0 classFile x code maxLocals ret World_1 tables_1 room_1 Calls_1 rest_1 Pre_1 Post := by
  intro l hfl _ _ p e ha hc hk s m args below hf hA hF happ hP
  obtain ⟨hcalls, hrest, hpre⟩ := hP
  obtain ⟨-, -, -, hnamed, -, -, -, hat⟩ := (Spec.applies_iff hf).mp happ
  obtain ⟨hg, hn⟩ := and_e (Cond.before_iff.mp (show (Jvm.Cond.and given_1 narrow_1).before args s = true from hpre))
  obtain ⟨hcount, g0⟩ := and_e hg
  obtain ⟨a0, g1⟩ := and_e g0
  obtain ⟨a1, g2⟩ := and_e g1
  obtain ⟨a2, g3⟩ := and_e g2
  obtain ⟨w0, w1, w2, w3, rfl⟩ : ∃ w0 w1 w2 w3 : Value, args = #[w0, w1, w2, w3] := by
    have hs : args.size = 4 := by simpa [Cond.value, given_1] using hcount
    obtain ⟨L⟩ := args
    match L, hs with
    | [w0, w1, w2, w3], _ => exact ⟨w0, w1, w2, w3, rfl⟩
  have hw := fun d (hd : d ∈ tables_1) => atoms_spec (ws := Jvm.Cond.code x code maxLocals ret :: tables_1) hat d (List.mem_cons_of_mem _ hd)
  have hfit : Fit s := fun {y c} hc i hi => by
    obtain ⟨ha, rfl⟩ := Array.getElem?_eq_some_iff.mp hc
    have q := List.all_eq_true.mp ((Array.all_eq_true_iff_forall_mem.mp hF) _ (Array.getElem_mem ha)) i (List.mem_range.mpr hi)
    simpa [Array.getElem?_eq_getElem hi] using q
  obtain ⟨i0, ei0⟩ := isL_v a0
  obtain rfl : w0 = (.long i0) := Option.some.inj ei0
  obtain ⟨i1, ei1⟩ := isL_v a1
  obtain rfl : w1 = (.long i1) := Option.some.inj ei1
  obtain ⟨i2, ei2⟩ := isL_v a2
  obtain rfl : w2 = (.long i2) := Option.some.inj ei2
  obtain ⟨i3, ei3⟩ := is_v g3
  obtain rfl : w3 = (.int i3) := Option.some.inj ei3
  obtain ⟨n, o, h1, h2, h3, _, L, rfl, ⟨rfl, N⟩, hq⟩ := own_rm0 l s _ hw tables_1 i0 i1 i2 i3 s.heap s.heap.size (Nat.le_refl _)  p e ha hc hk s m _ below hf ((Spec.applies_iff_loose hf).mp happ).1 ⟨rfl, State.Warmed39.refl s, rfl⟩ trivial
  refine ⟨n, _, h1, h2, h3, hpost _ _ _ _ _ _ ⟨Cond.after_iff.mpr rfl, Cond.after_iff.mpr (eq_i res_at (Term.int_eval (1)) rfl), trivial⟩ ⟨hq.1, hq.2.1, (hq.2.2.sift fun y hy => Or.inr (N y hy)).mono (by decide) (by decide)⟩⟩
theorem main_1_1 : Claimed_1_1 := own_comes fun _ _ _ _ _ _ h hF => ⟨h.1, hF⟩
theorem main_1_2 : Claimed_1_2 := own_comes fun _ _ _ _ _ _ h hF => ⟨h.2.1, hF⟩
end Jvm.Pilot.@@N@@
namespace Jvm.Pilot.@@N@@
open Jvm Jvm.ClassFile Sem Op Lib Jvm.Free Jvm.Stand Jvm.Pilot.@@N@@.Jvm.D
/-! MADE BY PROGRAM (witnessworld.py) out of the Statement's table words and the real class files: 9 classes; the members and pool entries that the words name. The judged class is class 1, her method 1. -/
namespace start1
open Jvm.ClassFile
def u (s : String) : CpInfo := .utf8 (stringToUtf16 s)
/-- a pool by its gaps: so many unusable entries, then the entry; so many at the end -/
def gap : Nat → List CpInfo → List CpInfo
  | 0, r => r
  | n + 1, r => .unusable :: gap n r
def poolList (es : List (Nat × CpInfo)) (last : Nat) : List CpInfo := es.foldr (fun e r => gap e.1 (e.2 :: r)) (gap last [])
def pool (es : List (Nat × CpInfo)) (last : Nat) : Array CpInfo := ⟨poolList es last⟩
def fileOf (pool : Array CpInfo) (this : Nat) (attrs : Array Attribute := #[]) (ms : Array MethodInfo := #[]) (fl : Nat := 33) (sup : Nat := 0) (ifs : Array Nat := #[]) (fds : Array FieldInfo := #[]) : ClassFile where
  minorVersion := 0
  majorVersion := 65
  constantPool := pool
  accessFlags := fl
  thisClass := this
  superClass := sup
  interfaces := ifs
  fields := fds
  methods := ms
  attributes := attrs
def plain (name : String) (sup : Option ClassId) : Class where
  name := name
  kind := .ordinary
  loader := none
  accessFlags := 33
  super := sup
  interfaces := #[]
  cf := none
  fields := #[]
  methods := #[]
  instanceTypes := #[]
  staticTypes := #[]
  resolved := #[]
  callSites := []
  init := .initialized
  statics := none
  mirror := none

def pool0 : Array CpInfo := pool [(5, u "<init>"), (0, u "()V"), (1, .class_ 10), (1, u "java/lang/Object")] 113

def k0m0 : Method := { name := "<init>", desc := "()V", sig := { parameters := [], returnType := none }, accessFlags := 1, code := none }
/-- java/lang/Object -/
def k0 : Class := { plain "java/lang/Object" none with
  accessFlags := 33
  interfaces := #[]
  cf := some (fileOf pool0 8 #[] #[{ accessFlags := 1, nameIndex := 5, descriptorIndex := 6, attributes := #[] }] 33 0 #[] #[])
  fields := #[]
  methods := #[k0m0]
  instanceTypes := #[]
  staticTypes := #[]
  resolved := Array.replicate 124 none
  statics := none }

def pool1 : Array CpInfo := pool [(2, .class_ 4), (1, u "java/lang/Object"), (0, u "<init>"), (0, u "()V"), (0, .long 18446744073709551615), (1, .methodref 10 11), (0, .class_ 12), (0, .nameAndType 13 14), (0, u "com/example/predicate/predicate/engine/ValueBits"), (0, u "mayMeet"), (0, u "(JJ)Z"), (0, .class_ 16), (0, u "com/example/predicate/predicate/engine/ValueBitsMayMeetPinLaw"), (2, u "law"), (0, u "(JJJI)Z")] 3

def k1m0 : Method := { name := "<init>", desc := "()V", sig := { parameters := [], returnType := none }, accessFlags := 2, code := none }
def k1c1 : Code := { maxStack := 7, maxLocals := 11, code := code, exceptionTable := #[], attributes := #[] }
def k1m1 : Method := { name := "law", desc := "(JJJI)Z", sig := { parameters := [.long, .long, .long, .int], returnType := some .boolean }, accessFlags := 9, code := some k1c1 }
/-- com/example/predicate/predicate/engine/ValueBitsMayMeetPinLaw -/
def k1 : Class := { plain "com/example/predicate/predicate/engine/ValueBitsMayMeetPinLaw" (some 0) with
  accessFlags := 49
  interfaces := #[]
  cf := some (fileOf pool1 15 #[] #[{ accessFlags := 2, nameIndex := 5, descriptorIndex := 6, attributes := #[] }, { accessFlags := 9, nameIndex := 19, descriptorIndex := 20, attributes := #[] }] 49 2 #[] #[])
  fields := #[]
  methods := #[k1m0, k1m1]
  instanceTypes := #[]
  staticTypes := #[]
  resolved := Array.replicate 24 none
  statics := none }

def pool2 : Array CpInfo := pool [(2, .class_ 4), (1, u "java/lang/Object"), (0, u "<init>"), (0, u "()V"), (19, .class_ 28), (1, u "com/example/predicate/predicate/engine/ValueBits"), (18, .long 18446744073709551615), (59, u "ANY"), (0, u "J"), (1, u "SPREAD"), (0, u "I"), (0, u "MIX"), (13, u "mayMeet"), (0, u "(JJ)Z")] 6

def k2m0 : Method := { name := "<init>", desc := "()V", sig := { parameters := [], returnType := none }, accessFlags := 2, code := none }
def k2c1 : Code := { maxStack := 4, maxLocals := 4, code := prog_97_method_6_code, exceptionTable := #[], attributes := #[] }
def k2m1 : Method := { name := "mayMeet", desc := "(JJ)Z", sig := { parameters := [.long, .long], returnType := some .boolean }, accessFlags := 8, code := some k2c1 }
/-- com/example/predicate/predicate/engine/ValueBits -/
def k2 : Class := { plain "com/example/predicate/predicate/engine/ValueBits" (some 0) with
  accessFlags := 32
  interfaces := #[]
  cf := some (fileOf pool2 26 #[] #[{ accessFlags := 2, nameIndex := 5, descriptorIndex := 6, attributes := #[] }, { accessFlags := 8, nameIndex := 126, descriptorIndex := 127, attributes := #[] }] 32 2 #[] #[{ accessFlags := 24, nameIndex := 107, descriptorIndex := 108, attributes := #[] }, { accessFlags := 26, nameIndex := 110, descriptorIndex := 111, attributes := #[] }, { accessFlags := 26, nameIndex := 112, descriptorIndex := 111, attributes := #[] }])
  fields := #[{ name := "ANY", type := .long, accessFlags := 24, slot := 0, constantValue := 0 }, { name := "SPREAD", type := .int, accessFlags := 26, slot := 1, constantValue := 0 }, { name := "MIX", type := .int, accessFlags := 26, slot := 2, constantValue := 0 }]
  methods := #[k2m0, k2m1]
  instanceTypes := #[]
  staticTypes := #[.long, .int, .int]
  resolved := Array.replicate 134 none
  statics := none }

def pool3 : Array CpInfo := pool [(1, u "java/lang/Cloneable"), (0, .class_ 1), (0, u "java/lang/Object"), (0, .class_ 3)] 3

/-- java/lang/Cloneable -/
def k3 : Class := { plain "java/lang/Cloneable" (some 0) with
  accessFlags := 1537
  interfaces := #[]
  cf := some (fileOf pool3 2 #[] #[] 1537 4 #[] #[])
  fields := #[]
  methods := #[]
  instanceTypes := #[]
  staticTypes := #[]
  resolved := Array.replicate 8 none
  statics := none }

def pool4 : Array CpInfo := pool [(1, u "java/io/Serializable"), (0, .class_ 1), (0, u "java/lang/Object"), (0, .class_ 3)] 3

/-- java/io/Serializable -/
def k4 : Class := { plain "java/io/Serializable" (some 0) with
  accessFlags := 1537
  interfaces := #[]
  cf := some (fileOf pool4 2 #[] #[] 1537 4 #[] #[])
  fields := #[]
  methods := #[]
  instanceTypes := #[]
  staticTypes := #[]
  resolved := Array.replicate 8 none
  statics := none }

/-- the primitive byte -/
def k5 : Class := { plain "byte" none with kind := .primitive 'B', accessFlags := 0x411 }
/-- [B -/
def k6 : Class := { plain "[B" (some 0) with kind := .array 5 .byte, interfaces := #[3, 4], accessFlags := 1041 }

/-- the primitive int -/
def k7 : Class := { plain "int" none with kind := .primitive 'I', accessFlags := 0x411 }
/-- [I -/
def k8 : Class := { plain "[I" (some 0) with kind := .array 7 .int, interfaces := #[3, 4], accessFlags := 1041 }

def heap : Heap := #[]
def classes : Array Class := #[k0, k1, k2, k3, k4, k5, k6, k7, k8]
def interned : List (Array UInt16 × Addr) := []
def slotsUsed : Nat := 0
def theMethod : MethodId := ⟨1, 1⟩
def args0 : Array Value := #[.long 5, .long 6, .long 7, .int 3]
def aboutOver (below : List Frame) : State where
  vm := { classes := classes, interned := interned.toArray }
  heap := heap
  slotsUsed := slotsUsed
  threads := #[{ frames := .invoking theMethod args0 :: below }]
def below0 : List Frame := [.native { method := ⟨0, 0⟩, args := #[] }]
def about1 : State := aboutOver below0
def p0 : Program := .bare "" "" ""
def e0 : Env := launch0.env 0 0 0
theorem w_frames : about1.frames = Frame.invoking theMethod args0 :: below0 := rfl
set_option maxRecDepth 65536 in
theorem w_args : argsFit about1.vm theMethod args0 = true := by decide +kernel
set_option maxRecDepth 65536 in
theorem w_heap : heapFits about1 = true := by decide +kernel
set_option maxRecDepth 65536 in
theorem w_runnable : about1.curStatus? = some .runnable := by decide +kernel
set_option maxRecDepth 65536 in
theorem w_alone : about1.alone = true := by decide +kernel
set_option maxRecDepth 65536 in
theorem w_named : about1.methodNamed? x = some theMethod := by decide +kernel
set_option maxRecDepth 65536 in
theorem w_hears : about1.hears theMethod below0 = true := by decide +kernel
set_option maxRecDepth 65536 in
theorem w_ripe : about1.ripe theMethod args0 below0 = true := by decide +kernel
theorem w_running : about1.status = .running := rfl
set_option maxRecDepth 65536 in
theorem w_room : about1.hasRoom e0.platform room_1 = true :=
  launch0.hasRoom_least _ room_1 (by decide +kernel) (by decide +kernel) (by decide +kernel) (by decide +kernel) (by decide +kernel) (by decide +kernel)
theorem allAtoms_all (ts : List Jvm.Cond) (a : Array Jvm.Value) (st : Jvm.State) : (allAtoms ts).before a st = ts.all (fun c => c.before a st) := by
  induction ts with
  | nil => rfl
  | cons c t ih =>
    show (Jvm.Cond.and c (allAtoms t)).before a st = _
    rw [Jvm.Cond.before_and, ih, List.all_cons]
def words1 : List Jvm.Cond := Jvm.Cond.code x code maxLocals ret :: tables_1
/-- a 'code' word, met by the world's own term for the bytes: nothing is compared byte by byte -/
theorem code_word {y : MethodName} {bytes : ByteArray} {mx : Nat} {rt : Option FieldType} {a : Array Value} {s : State} {m : MethodId} {meth : Method} {c : Code} (h1 : s.methodNamed? y = some m) (h2 : s.vm.method? m = some meth) (h3 : meth.code = some c) (h4 : c.code = bytes)
    (h5 : (c.maxLocals == mx && c.exceptionTable.isEmpty && decide (c.maxStack ≤ mostOperands) && decide (meth.sig.returnType = rt) && !meth.locks && decide (parseMethodDescriptor y.desc = some meth.sig)) = true) : (Jvm.Cond.code y bytes mx rt).before a s = true := by
  simp only [Bool.and_eq_true, beq_iff_eq, Bool.not_eq_true', decide_eq_true_eq] at h5
  obtain ⟨⟨⟨⟨⟨g1, g2⟩, g3⟩, g4⟩, g5⟩, g6⟩ := h5
  simp [Cond.before, Cond.holds, Cond.value, h1, h2, h3, h4, g1, g2, g3, g4, g5, g6]
def isCode : Jvm.Cond → Bool
  | .code _ _ _ _ => true
  | _ => false
theorem all_split {L : List Jvm.Cond} {P : Jvm.Cond → Bool} (h1 : L.all (fun c => isCode c || P c) = true) (h2 : ∀ c ∈ L.filter isCode, P c = true) : L.all P = true := by
  refine List.all_eq_true.mpr fun c hc => ?_
  have h := List.all_eq_true.mp h1 c hc
  rcases Bool.eq_false_or_eq_true (isCode c) with hi | hi
  · exact h2 c (List.mem_filter.mpr ⟨hc, hi⟩)
  · simpa [hi] using h
set_option maxRecDepth 65536 in
theorem w_c0 : (Jvm.Cond.code x code maxLocals ret).before args0 about1 = true := code_word (m := ⟨1, 1⟩) (meth := k1m1) (c := k1c1) (by decide +kernel) rfl rfl rfl (by decide +kernel)
set_option maxRecDepth 65536 in
theorem w_c1 : (Jvm.Cond.code ({ cls := "com/example/predicate/predicate/engine/ValueBits", name := "mayMeet", desc := "(JJ)Z" } : Jvm.MethodName) prog_97_method_6_code (4 : Nat) (Option.some Jvm.ClassFile.FieldType.boolean)).before args0 about1 = true := code_word (m := ⟨2, 1⟩) (meth := k2m1) (c := k2c1) (by decide +kernel) rfl rfl rfl (by decide +kernel)
def codes1 : List Jvm.Cond := [Jvm.Cond.code x code maxLocals ret, Jvm.Cond.code ({ cls := "com/example/predicate/predicate/engine/ValueBits", name := "mayMeet", desc := "(JJ)Z" } : Jvm.MethodName) prog_97_method_6_code (4 : Nat) (Option.some Jvm.ClassFile.FieldType.boolean)]
set_option maxRecDepth 65536 in
theorem codes_eq : words1.filter isCode = codes1 := rfl
theorem w_codes : ∀ c ∈ words1.filter isCode, c.before args0 about1 = true := by
  rw [codes_eq]
  intro c hc
  simp only [codes1, List.mem_cons, List.not_mem_nil, or_false] at hc
  rcases hc with rfl | rfl
  · exact w_c0
  · exact w_c1
set_option maxRecDepth 65536 in
theorem w_t1 : words1.all (fun c => isCode c || c.before args0 about1) = true := by decide +kernel
theorem w_tables : (allAtoms (Jvm.Cond.code x code maxLocals ret :: tables_1)).before args0 about1 = true := by
  rw [allAtoms_all]
  show words1.all (fun c => c.before args0 about1) = true
  refine all_split ?_ w_codes
  rw [w_t1]
set_option maxRecDepth 65536 in
theorem w_case : (Jvm.Cond.and given_1 narrow_1).before args0 about1 = true := by decide +kernel
theorem w_applies : (headSpec (Jvm.Cond.code x code maxLocals ret :: tables_1) room_1).applies x e0.platform about1 = true :=
  (Spec.applies_iff w_frames).mpr ⟨w_running, w_runnable, w_alone, w_named, w_hears, w_ripe, w_room, w_tables⟩
theorem atStart : AtStart classFile x code maxLocals ret World_1 tables_1 room_1 Calls_1 rest_1 Pre_1 launch0 p0 e0 about1 theMethod args0 below0 :=
  ⟨lists_1, trivial, launch0.admits_env _ _ _, launch0.least_env, fairChoices_fair.cas, fairChoices_fair.clock, w_frames, w_args, w_heap, w_applies, trivial, trivial, w_case⟩
end start1
theorem witness_1 : WitnessClaimed_1 := ⟨start1.p0, start1.e0, start1.about1, start1.theMethod, start1.args0, start1.below0, start1.atStart⟩
end Jvm.Pilot.@@N@@
