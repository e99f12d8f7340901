import JvmDerived
import JvmDerived.Pilot.@@N@@Statement
import JvmDerived.Pilot.@@N@@Code
set_option linter.unusedVariables false
set_option linter.unusedSimpArgs false
namespace Jvm.Pilot.@@N@@
open Jvm Jvm.ClassFile Sem Op Lib Jvm.Free Jvm.Stand Jvm.LawKit Jvm.RoadKit Bundle Jvm.Pilot.@@N@@.Jvm.D
/-- from U the run comes to a state of which K holds -/
def own_Go (tb : Tables) (e : Env) (below : List Frame) (K : State → Prop) (U : State) : Prop := ∃ t, Steps tb e below U t ∧ K t
theorem own_by {tb : Tables} {e : Env} {below : List Frame} {K : State → Prop} {U U' : State} (k : ∀ t, Steps tb e below U' t → Steps tb e below U t) (h : own_Go tb e below K U') : own_Go tb e below K U := by
  obtain ⟨t, a, b⟩ := h
  exact ⟨t, k t a, b⟩
/-- what a returning instruction needs: the frames that it leaves, and that K holds there -/
def own_Out (e : Env) (m : MethodId) (K : State → Prop) (T : State) (v : Option Value) : Prop := ∃ fs, (∀ (f : JFrame) (acts : List Action), f.method = m → f.locked = none → f.entered = [] → (doReturn e (T.setTop f) acts v).1 = T.setFrames fs) ∧ K (T.setFrames fs)
theorem own_met {l : Launch} {y : MethodName} {bytes : ByteArray} {ml : Nat} {ret : Option FieldType} {ws : List Jvm.Cond} {rm : Room} {as' : Array Value} {Z : State} {h0 : Heap} {k n : Nat} {Q : Option Value → Heap → List Loc → Prop} (hp : plainFor y = true)
    (body : ∀ (p : Program) (e : Env) (s : State) (m : MethodId) (below : List Frame) (meth : Method) (c : Code) (s₁ : State) (K : State → Prop), p.tables.exec = Jvm.exec → c.code = bytes → c.maxLocals = ml → s.vm.findClass y.cls = some m.cls → meth.name = y.name → meth.sig.returnType = ret →
      Z.Warmed39 s.vm → Stand p l e rm s m as' below meth c s₁ [] 0 0 → s₁.heap = h0 →
      (∀ (v : Option Value) {T : State} {L : List Loc} {k' n' : Nat}, Stand p l e rm s m as' below meth c T L k' n' → (meth.sig.returnType = none → v = none) → Q v T.heap L → k' ≤ k → n' ≤ n → own_Out e m K T v) →
      own_Go p.tables e below K (s₁.setTop (entryFrame m as' ml))) :
    MetFree l y (head1 (Jvm.Cond.code y bytes ml ret :: ws) rm) (fun a U => a = as' ∧ Z.Warmed39 U.vm ∧ U.heap = h0) (fun _ _ _ _ _ => True) (fun _ U o U' => ∃ v L, o = .returned v ∧ Q v U'.heap L ∧ FrameEnd U o U' L k n) := by
  refine MetFree.of_bodySF hp hisR ?_
  intro p e s m args below meth c s₁ Bd hml0 hP hK
  obtain ⟨rfl, hZ, hh⟩ := hP
  have hown : s.vm.findClass y.cls = some m.cls := findClass_of_methodNamed Bd.named
  obtain ⟨t, hs, o, h1, h2, h3⟩ := body p e s m below meth c s₁ (fun t => ∃ o, t.status = .running ∧ Ended t below o ∧ ∃ v L, o = .returned v ∧ Q v t.heap L ∧ FrameEnd s o t L k n) Bd.exec Bd.bytes hml0 hown (name_of_methodNamed Bd.named Bd.method).1 Bd.returns hZ (Stand.of_body Bd) (by rw [← hh, Bd.state]; rfl) (by
    intro v T L k' n' X hv hq hk hn
    obtain ⟨fs, hr, hrun, hended, hW, hsame⟩ := X.leave (v := v) hv
    exact ⟨fs, hr, _, hrun, hended, v, L, rfl, hq, ⟨_, rfl⟩, hW, hsame.mono hk hn⟩)
  exact ⟨t, o, hs, h1, h2, h3⟩
section OwnRet
variable {p : Program} {l : Launch} {e : Env} {R : Room} {s : State} {m : MethodId} {args : Array Value} {below : List Frame} {meth : Method} {c : Code} {T : State} {locs : List Loc} {cells slots : Nat} {K : State → Prop}
theorem own_retI (X : Stand p l e R s m args below meth c T locs cells slots) (hx : p.tables.exec = Jvm.exec) (hret : meth.sig.returnType = some .int) {pc : Nat} {Ls : Array Slot} {z : Int32} {rest : List Value} (hd : decode c.code pc = .ok (.ireturn, 1)) (hq : own_Out e m K T (some (.int z))) : own_Go p.tables e below K (T.setTop (mkF m pc Ls (.int z :: rest))) := by
  obtain ⟨fs, hr, hk⟩ := hq
  exact ⟨_, retOut X hx hret rfl (Or.inl ⟨rfl, Or.inl rfl, _, rfl⟩) hd hr, hk⟩
theorem own_retZ (X : Stand p l e R s m args below meth c T locs cells slots) (hx : p.tables.exec = Jvm.exec) {t : FieldType} (hret : meth.sig.returnType = some t) (ht : t = .boolean ∨ t = .byte ∨ t = .char ∨ t = .short) {pc : Nat} {Ls : Array Slot} {z : Int32} {rest : List Value} (hd : decode c.code pc = .ok (.ireturn, 1)) (hq : own_Out e m K T (some (.int (nar t z)))) : own_Go p.tables e below K (T.setTop (mkF m pc Ls (.int z :: rest))) := by
  obtain ⟨fs, hr, hk⟩ := hq
  exact ⟨_, retN X hx hret ht hd hr, hk⟩
theorem own_retJ (X : Stand p l e R s m args below meth c T locs cells slots) (hx : p.tables.exec = Jvm.exec) (hret : meth.sig.returnType = some .long) {pc : Nat} {Ls : Array Slot} {z : Int64} {rest : List Value} (hd : decode c.code pc = .ok (.lreturn, 1)) (hq : own_Out e m K T (some (.long z))) : own_Go p.tables e below K (T.setTop (mkF m pc Ls (.long z :: rest))) := by
  obtain ⟨fs, hr, hk⟩ := hq
  exact ⟨_, retOut X hx hret rfl (Or.inr (Or.inl ⟨rfl, rfl, _, rfl⟩)) hd hr, hk⟩
theorem own_retA (X : Stand p l e R s m args below meth c T locs cells slots) (hx : p.tables.exec = Jvm.exec) {t : FieldType} (hret : meth.sig.returnType = some t) (ht : t.isReference = true) {pc : Nat} {Ls : Array Slot} {w : Value} {rest : List Value} (hn : narrow t w = w) (hw : w.isRef = true) (hd : decode c.code pc = .ok (.areturn, 1)) (hq : own_Out e m K T (some w)) : own_Go p.tables e below K (T.setTop (mkF m pc Ls (w :: rest))) := by
  obtain ⟨fs, hr, hk⟩ := hq
  exact ⟨_, retOut X hx hret hn (Or.inr (Or.inr (Or.inr (Or.inr ⟨rfl, ht, hw⟩)))) hd hr, hk⟩
theorem own_retV (X : Stand p l e R s m args below meth c T locs cells slots) (hx : p.tables.exec = Jvm.exec) (hret : meth.sig.returnType = none) {pc : Nat} {Ls : Array Slot} (hd : decode c.code pc = .ok (.return_, 1)) (hq : own_Out e m K T none) : own_Go p.tables e below K (T.setTop (mkF m pc Ls [])) := by
  obtain ⟨fs, hr, hk⟩ := hq
  exact ⟨_, X.returnOut hx hret hd hr, hk⟩
end OwnRet
theorem own_nar {C : String} {w : Value} (h : w.isRef = true) : narrow (.object C) w = w := by cases w <;> rfl
theorem own_fit {C : String} {w : Value} (h : w.isRef = true) : fits (.object C) w = true := by cases w <;> first | rfl | (simp [Value.isRef] at h)
theorem own_more {p : Program} {l : Launch} {e : Env} {R : Room} {s : State} {m : MethodId} {args : Array Value} {below : List Frame} {meth : Method} {c : Code} {T : State} {locs : List Loc} {k n k' n' : Nat} (X : Stand p l e R s m args below meth c T locs k n) (hk : k ≤ k') (hn : n ≤ n') : Stand p l e R s m args below meth c T locs k' n' := { X with same := X.same.mono hk hn }
/-- a condition as 0 or 1 -/
def own_tern (x : Int32) : Int32 := if x = 0 then 0 else 1
theorem own_t0 {x : Int32} (h : x = 0) : own_tern x = 0 := if_pos h
theorem own_t1 {x : Int32} (h : ¬ x = 0) : own_tern x = 1 := if_neg h
theorem own_t01 (x : Int32) : own_tern x = 0 ∨ own_tern x = 1 := by unfold own_tern; split <;> simp
theorem own_nb {x : Int32} (h : x = 0 ∨ x = 1) : nar .boolean x = x := by rcases h with rfl | rfl <;> rfl
theorem own_b53 (x : Int32) : B53 x.toInt64 := by
  have h1 := x.toInt_lt; have h2 := x.le_toInt
  unfold B53
  rw [Int32.toInt_toInt64]
  omega
theorem own_i64 (x y : Int32) : x.toInt64 < y.toInt64 ↔ x < y := by rw [Int64.lt_iff_toInt_lt, Int32.lt_iff_toInt_lt, Int32.toInt_toInt64, Int32.toInt_toInt64]
theorem own_ni {x y : Int32} (h : ¬ x = y) {n : Int} (e : y.toInt = n) : ¬ x.toInt = n := fun q => h (Int32.toInt_inj.mp (q.trans e.symm))
theorem own_llt {x y : Int64} (h : x < y) : ifCond.holds .lt (lcmpW x y) = true ∧ ifCond.holds .ge (lcmpW x y) = false := by
  have q := tlt (by rw [lcW]; exact (lc_lt x y).mpr h : lcmpW x y < 0)
  exact ⟨(if0 _ _).trans q.1, (if0 _ _).trans q.2.1⟩
theorem own_lge {x y : Int64} (h : ¬ x < y) : ifCond.holds .lt (lcmpW x y) = false ∧ ifCond.holds .ge (lcmpW x y) = true := by
  have q := flt (by rw [lcW]; exact fun z => h ((lc_lt x y).mp z) : ¬ lcmpW x y < 0)
  exact ⟨(if0 _ _).trans q.1, (if0 _ _).trans q.2.1⟩
theorem own_lgt {x y : Int64} (h : y < x) : ifCond.holds .gt (lcmpW x y) = true ∧ ifCond.holds .le (lcmpW x y) = false := by
  have q := tlt (by rw [lcW]; exact (lc_gt x y).mpr h : 0 < lcmpW x y)
  exact ⟨(if0 _ _).trans q.2.2.1, (if0 _ _).trans q.2.2.2⟩
theorem own_lle {x y : Int64} (h : ¬ y < x) : ifCond.holds .gt (lcmpW x y) = false ∧ ifCond.holds .le (lcmpW x y) = true := by
  have q := flt (by rw [lcW]; exact fun z => h ((lc_gt x y).mp z) : ¬ 0 < lcmpW x y)
  exact ⟨(if0 _ _).trans q.2.2.1, (if0 _ _).trans q.2.2.2⟩
theorem own_leq {x y : Int64} (h : x = y) : ifCond.holds .eq (lcmpW x y) = true ∧ ifCond.holds .ne (lcmpW x y) = false := by
  have q := teq (by rw [lcW]; exact (lc_eq x y).mpr h : lcmpW x y = 0)
  exact ⟨(if0 _ _).trans q.1, (if0 _ _).trans q.2⟩
theorem own_lne {x y : Int64} (h : ¬ x = y) : ifCond.holds .eq (lcmpW x y) = false ∧ ifCond.holds .ne (lcmpW x y) = true := by
  have q := feq (by rw [lcW]; exact fun z => h ((lc_eq x y).mp z) : ¬ lcmpW x y = 0)
  exact ⟨(if0 _ _).trans q.1, (if0 _ _).trans q.2⟩
def own_dom0   : Int32 := if False then 0 else if False then 1 else 0
def own_dom1 (a0 : Int32) (b0 : Int32) : Int32 := if b0 < a0 then 0 else if a0 < b0 then 1 else 0
def own_dom2 (a0 : Int32) (a1 : Int32) (b0 : Int32) (b1 : Int32) : Int32 := if b0 < a0 ∨ b1 < a1 then 0 else if a0 < b0 ∨ a1 < b1 then 1 else 0
def own_dom3 (a0 : Int32) (a1 : Int32) (a2 : Int32) (b0 : Int32) (b1 : Int32) (b2 : Int32) : Int32 := if b0 < a0 ∨ b1 < a1 ∨ b2 < a2 then 0 else if a0 < b0 ∨ a1 < b1 ∨ a2 < b2 then 1 else 0
theorem own_and3 (x : Int32) : x &&& 3 = 0 ∨ x &&& 3 = 1 ∨ x &&& 3 = 2 ∨ x &&& 3 = 3 := by
  have t : ∀ k : Fin 4, Int32.ofNat k.val = 0 ∨ Int32.ofNat k.val = 1 ∨ Int32.ofNat k.val = 2 ∨ Int32.ofNat k.val = 3 := by decide
  have h : (x &&& 3).toBitVec.toNat < 4 := by
    simp only [Int32.toBitVec_and, BitVec.toNat_and]
    exact Nat.lt_succ_of_le Nat.and_le_right
  have e : (x &&& 3) = Int32.ofNat (x &&& 3).toBitVec.toNat := by
    apply Int32.toBitVec_inj.mp
    show _ = BitVec.ofNat 32 _
    rw [BitVec.ofNat_toNat]; simp
  rw [e]
  exact t ⟨_, h⟩
theorem own_pn1 : plainName "com/example/manyfront/manyfront/sorting/NondominatedSortingDominatesPinLaw" = true := by first | (simp [plainName, overriddenIn]; done) | decide +kernel
theorem own_d1_0 : decode method_3_code 0 = .ok (.iload_n 0, 1) := by decide +kernel
theorem own_d1_1 : decode method_3_code 1 = .ok (.ifCond .ne 7, 3) := by decide +kernel
theorem own_d1_4 : decode method_3_code 4 = .ok (.iconst 0, 1) := by decide +kernel
theorem own_d1_5 : decode method_3_code 5 = .ok (.newarray .double, 2) := by decide +kernel
theorem own_d1_7 : decode method_3_code 7 = .ok (.areturn, 1) := by decide +kernel
theorem own_efmk0 (m : MethodId) (a0 : Int32) (a1 : Int32) (a2 : Int32) : entryFrame m #[(.int (0 : Int32)), (.int a0), (.int a1), (.int a2)] 4 = mkF m 0 #[.val (.int (0 : Int32)), .val (.int a0), .val (.int a1), .val (.int a2)] [] := by first | (simp [entryFrame, mkF, argsToLocals, Value.category]; done) | rfl
def own_Qmk0 (Z : State) (a0 : Int32) (a1 : Int32) (a2 : Int32) (h0 : Heap) (n0 : Nat) (v : Option Value) (h : Heap) (L : List Loc) : Prop := ∃ (r : Addr) (k : ClassId), v = some (.ref r) ∧ Fr n0 L ∧ Keep h0 h [] ∧ Arv Z h r k .double (0 : Int32) [] (.double (FP.l2d 0))
set_option maxRecDepth 65536 in
set_option maxHeartbeats 40000000 in
theorem own_rmmk0 (l : Launch) (Z : State) (aw : Array Value) (hw : ∀ d ∈ tables_1, d.before aw Z = true) (ws : List Jvm.Cond) (a0 : Int32) (a1 : Int32) (a2 : Int32) (h0 : Heap) (n0 : Nat) (Z0 : n0 ≤ h0.size)  :
    MetFree l (⟨"com/example/manyfront/manyfront/sorting/NondominatedSortingDominatesPinLaw", "make", "(IIII)[D"⟩ : MethodName) (head1 (Jvm.Cond.code (⟨"com/example/manyfront/manyfront/sorting/NondominatedSortingDominatesPinLaw", "make", "(IIII)[D"⟩ : MethodName) method_3_code 4 (some (.array .double)) :: ws) ({ frames := 0, cells := 1, slots := 0, locals := 0 } : Room)) (fun a U => a = #[(.int (0 : Int32)), (.int a0), (.int a1), (.int a2)] ∧ Z.Warmed39 U.vm ∧ U.heap = h0) (fun _ _ _ _ _ => True) (fun _ U o U' => ∃ v L, o = .returned v ∧ own_Qmk0 Z a0 a1 a2 h0 n0 v U'.heap L ∧ FrameEnd U o U' L ({ frames := 0, cells := 1, slots := 0, locals := 0 } : Room).cells ({ frames := 0, cells := 1, slots := 0, locals := 0 } : Room).slots) := by
  refine own_met (Q := own_Qmk0 Z a0 a1 a2 h0 n0) (plainFor_of_name own_pn1) ?_
  intro p e s m below meth c s₁ K hx hby hml hown hnm hret hZ X0 e0 hK
  have hown : s.vm.findClass "com/example/manyfront/manyfront/sorting/NondominatedSortingDominatesPinLaw" = some m.cls := hown
  have N0 := Fr.nil n0
  refine own_by (fun t k => castTop (own_efmk0 m a0 a1 a2) k) ?_
  show own_Go p.tables e below K (s₁.setTop (mkF m 0 #[.val (.int (0 : Int32)), .val (.int a0), .val (.int a1), .val (.int a2)] []))
  refine own_by (fun t k => XS.iloadN X0.here hx rfl (hb hby own_d1_0) rfl k) ?_
  show own_Go p.tables e below K (s₁.setTop (mkF m 1 #[.val (.int (0 : Int32)), .val (.int a0), .val (.int a1), .val (.int a2)] [(.int (0 : Int32))]))
  have hc1 : (0 : Int32) = (0 : Int32) := by decide
  refine own_by (fun t k => XS.ifNo X0.here hx rfl (hb hby own_d1_1) rfl ((if0 _ _).trans (teq hc1).2) k) ?_
  show own_Go p.tables e below K (s₁.setTop (mkF m 4 #[.val (.int (0 : Int32)), .val (.int a0), .val (.int a1), .val (.int a2)] []))
  refine own_by (fun t k => XS.iconst X0.here hx rfl (hb hby own_d1_4) k) ?_
  show own_Go p.tables e below K (s₁.setTop (mkF m 5 #[.val (.int (0 : Int32)), .val (.int a0), .val (.int a1), .val (.int a2)] [(.int (0 : Int32))]))
  obtain ⟨T1, h1, k1, X1, e1, E1, A1, st1⟩ := newP X0 hx hZ (hw _ (List.mem_of_getElem? (i := 4) rfl)) e0 (g := (mkF m 5 #[.val (.int (0 : Int32)), .val (.int a0), .val (.int a1), .val (.int a2)] [(.int (0 : Int32))])) rfl (hb hby own_d1_5) rfl (by decide) (cap := 0) (by decide) (by decide) (by decide) (by decide)
  obtain ⟨b1, g1⟩ : ∃ z, z = h0.size := ⟨_, rfl⟩
  rw [← g1] at A1 st1
  refine own_by st1 ?_
  have gn_b1 : n0 ≤ b1 := Nat.le_trans Z0 (Nat.le_of_eq g1.symm)
  have sz_b1 : h0.size ≤ b1 := Nat.le_trans (Keep.refl h0 []).1 (Nat.le_of_eq g1.symm)
  have K1 := (Keep.refl h0 []).ext E1
  have Z1 := Nat.le_trans Z0 E1.1
  have V1 : Arv Z h1 b1 k1 .double (0 : Int32) [] (.double (FP.l2d 0)) := (Arv.newD A1 (by decide)).pad (pad_rep [] (.double (FP.l2d 0)) 0)
  show own_Go p.tables e below K (T1.setTop (mkF m 7 #[.val (.int (0 : Int32)), .val (.int a0), .val (.int a1), .val (.int a2)] [(.ref b1)]))
  exact own_retA X1 hx hret rfl rfl rfl (hb hby own_d1_7) (hK (some (.ref b1)) X1 (fun h => by rw [hret] at h; cases h) (by rw [e1]; exact ⟨_, _, rfl, N0, K1, V1⟩) (by decide) (by decide))
theorem own_pn2 : plainName "com/example/manyfront/manyfront/sorting/NondominatedSorting" = true := by first | (simp [plainName, overriddenIn]; done) | decide +kernel
theorem own_d2_0 : decode prog_73_method_2_code 0 = .ok (.iconst 0, 1) := by decide +kernel
theorem own_d2_1 : decode prog_73_method_2_code 1 = .ok (.istore_n 2, 1) := by decide +kernel
theorem own_d2_2 : decode prog_73_method_2_code 2 = .ok (.iconst 0, 1) := by decide +kernel
theorem own_d2_3 : decode prog_73_method_2_code 3 = .ok (.istore_n 3, 1) := by decide +kernel
theorem own_d2_4 : decode prog_73_method_2_code 4 = .ok (.iload_n 3, 1) := by decide +kernel
theorem own_d2_5 : decode prog_73_method_2_code 5 = .ok (.aload_n 0, 1) := by decide +kernel
theorem own_d2_6 : decode prog_73_method_2_code 6 = .ok (.arraylength, 1) := by decide +kernel
theorem own_d2_7 : decode prog_73_method_2_code 7 = .ok (.if_icmp .ge 39, 3) := by decide +kernel
theorem own_d2_46 : decode prog_73_method_2_code 46 = .ok (.iload_n 2, 1) := by decide +kernel
theorem own_d2_47 : decode prog_73_method_2_code 47 = .ok (.ireturn, 1) := by decide +kernel
theorem own_efdm0 (m : MethodId) (ra : Addr) (rb : Addr) : entryFrame m #[(.ref ra), (.ref rb)] 4 = mkF m 0 #[.val (.ref ra), .val (.ref rb), .unset, .unset] [] := by first | (simp [entryFrame, mkF, argsToLocals, Value.category]; done) | rfl
def own_Qdm0 (Z : State) (ra : Addr) (rb : Addr) (ka : ClassId) (kb : ClassId)   (h0 : Heap) (n0 : Nat) (v : Option Value) (h : Heap) (L : List Loc) : Prop := v = some (.int (own_dom0  )) ∧ Fr n0 L ∧ h = h0
set_option maxRecDepth 65536 in
set_option maxHeartbeats 40000000 in
theorem own_rmdm0 (l : Launch) (Z : State) (aw : Array Value) (hw : ∀ d ∈ tables_1, d.before aw Z = true) (ws : List Jvm.Cond) (ra : Addr) (rb : Addr) (ka : ClassId) (kb : ClassId)   (h0 : Heap) (n0 : Nat) (Z0 : n0 ≤ h0.size) (VA : Arv Z h0 ra ka .double (0 : Int32) [] (.double (FP.l2d 0))) (VB : Arv Z h0 rb kb .double (0 : Int32) [] (.double (FP.l2d 0))) :
    MetFree l (⟨"com/example/manyfront/manyfront/sorting/NondominatedSorting", "dominates", "([D[D)Z"⟩ : MethodName) (head1 (Jvm.Cond.code (⟨"com/example/manyfront/manyfront/sorting/NondominatedSorting", "dominates", "([D[D)Z"⟩ : MethodName) prog_73_method_2_code 4 (some .boolean) :: ws) ({ frames := 0, cells := 0, slots := 0, locals := 0 } : Room)) (fun a U => a = #[(.ref ra), (.ref rb)] ∧ Z.Warmed39 U.vm ∧ U.heap = h0) (fun _ _ _ _ _ => True) (fun _ U o U' => ∃ v L, o = .returned v ∧ own_Qdm0 Z ra rb ka kb h0 n0 v U'.heap L ∧ FrameEnd U o U' L ({ frames := 0, cells := 0, slots := 0, locals := 0 } : Room).cells ({ frames := 0, cells := 0, slots := 0, locals := 0 } : Room).slots) := by
  refine own_met (Q := own_Qdm0 Z ra rb ka kb h0 n0) (plainFor_of_name own_pn2) ?_
  intro p e s m below meth c s₁ K hx hby hml hown hnm hret hZ X0 e0 hK
  have hown : s.vm.findClass "com/example/manyfront/manyfront/sorting/NondominatedSorting" = some m.cls := hown
  have N0 := Fr.nil n0
  refine own_by (fun t k => castTop (own_efdm0 m ra rb) k) ?_
  show own_Go p.tables e below K (s₁.setTop (mkF m 0 #[.val (.ref ra), .val (.ref rb), .unset, .unset] []))
  refine own_by (fun t k => XS.iconst X0.here hx rfl (hb hby own_d2_0) k) ?_
  show own_Go p.tables e below K (s₁.setTop (mkF m 1 #[.val (.ref ra), .val (.ref rb), .unset, .unset] [(.int (0 : Int32))]))
  refine own_by (fun t k => XS.istoreN X0.here hx rfl (hb hby own_d2_1) rfl (l' := #[.val (.ref ra), .val (.ref rb), .val (.int (0 : Int32)), .unset]) rfl k) ?_
  show own_Go p.tables e below K (s₁.setTop (mkF m 2 #[.val (.ref ra), .val (.ref rb), .val (.int (0 : Int32)), .unset] []))
  refine own_by (fun t k => XS.iconst X0.here hx rfl (hb hby own_d2_2) k) ?_
  show own_Go p.tables e below K (s₁.setTop (mkF m 3 #[.val (.ref ra), .val (.ref rb), .val (.int (0 : Int32)), .unset] [(.int (0 : Int32))]))
  refine own_by (fun t k => XS.istoreN X0.here hx rfl (hb hby own_d2_3) rfl (l' := #[.val (.ref ra), .val (.ref rb), .val (.int (0 : Int32)), .val (.int (0 : Int32))]) rfl k) ?_
  show own_Go p.tables e below K (s₁.setTop (mkF m 4 #[.val (.ref ra), .val (.ref rb), .val (.int (0 : Int32)), .val (.int (0 : Int32))] []))
  refine own_by (fun t k => XS.iloadN X0.here hx rfl (hb hby own_d2_4) rfl k) ?_
  show own_Go p.tables e below K (s₁.setTop (mkF m 5 #[.val (.ref ra), .val (.ref rb), .val (.int (0 : Int32)), .val (.int (0 : Int32))] [(.int (0 : Int32))]))
  refine own_by (fun t k => XS.aloadN X0.here hx rfl (hb hby own_d2_5) rfl rfl k) ?_
  show own_Go p.tables e below K (s₁.setTop (mkF m 6 #[.val (.ref ra), .val (.ref rb), .val (.int (0 : Int32)), .val (.int (0 : Int32))] [(.ref ra), (.int (0 : Int32))]))
  obtain ⟨cl2, Ar2, -, S2, M2, -, -⟩ := id VA
  refine own_by (fun t k => X0.arraylength hx (by rw [e0]; exact Ar2.1) (State.isArrayOf_alike hZ.alike Ar2.2.1) (g := (mkF m 6 #[.val (.ref ra), .val (.ref rb), .val (.int (0 : Int32)), .val (.int (0 : Int32))] [(.ref ra), (.int (0 : Int32))])) rfl rfl (hb hby own_d2_6) t k) ?_
  rw [len_of S2 M2]
  show own_Go p.tables e below K (s₁.setTop (mkF m 7 #[.val (.ref ra), .val (.ref rb), .val (.int (0 : Int32)), .val (.int (0 : Int32))] [(.int (0 : Int32)), (.int (0 : Int32))]))
  have hc7 : ¬ ((0 : Int32) < (0 : Int32)) := by decide
  refine own_by (fun t k => XS.icmpYes X0.here hx rfl (pc0 := 7) (pc' := 46) rfl (hb hby own_d2_7) rfl (flt hc7).2.1 (by decide) (by decide) k) ?_
  show own_Go p.tables e below K (s₁.setTop (mkF m 46 #[.val (.ref ra), .val (.ref rb), .val (.int (0 : Int32)), .val (.int (0 : Int32))] []))
  refine own_by (fun t k => XS.iloadN X0.here hx rfl (hb hby own_d2_46) rfl k) ?_
  show own_Go p.tables e below K (s₁.setTop (mkF m 47 #[.val (.ref ra), .val (.ref rb), .val (.int (0 : Int32)), .val (.int (0 : Int32))] [(.int (0 : Int32))]))
  exact own_retZ X0 hx (t := .boolean) hret (by simp) (hb hby own_d2_47) (hK (some (.int (0 : Int32))) X0 (fun h => by rw [hret] at h; cases h) ⟨by simp_all [own_dom0, own_i64], N0, e0⟩ (by decide) (by decide))
theorem own_d1_8 : decode method_3_code 8 = .ok (.iload_n 0, 1) := by decide +kernel
theorem own_d1_9 : decode method_3_code 9 = .ok (.iconst 1, 1) := by decide +kernel
theorem own_d1_10 : decode method_3_code 10 = .ok (.if_icmp .ne 12, 3) := by decide +kernel
theorem own_d1_13 : decode method_3_code 13 = .ok (.iconst 1, 1) := by decide +kernel
theorem own_d1_14 : decode method_3_code 14 = .ok (.newarray .double, 2) := by decide +kernel
theorem own_d1_16 : decode method_3_code 16 = .ok (.dup, 1) := by decide +kernel
theorem own_d1_17 : decode method_3_code 17 = .ok (.iconst 0, 1) := by decide +kernel
theorem own_d1_18 : decode method_3_code 18 = .ok (.iload_n 1, 1) := by decide +kernel
theorem own_d1_19 : decode method_3_code 19 = .ok (.i2d, 1) := by decide +kernel
theorem own_d1_20 : decode method_3_code 20 = .ok (.dastore, 1) := by decide +kernel
theorem own_d1_21 : decode method_3_code 21 = .ok (.areturn, 1) := by decide +kernel
theorem own_efmk1 (m : MethodId) (a0 : Int32) (a1 : Int32) (a2 : Int32) : entryFrame m #[(.int (1 : Int32)), (.int a0), (.int a1), (.int a2)] 4 = mkF m 0 #[.val (.int (1 : Int32)), .val (.int a0), .val (.int a1), .val (.int a2)] [] := by first | (simp [entryFrame, mkF, argsToLocals, Value.category]; done) | rfl
def own_Qmk1 (Z : State) (a0 : Int32) (a1 : Int32) (a2 : Int32) (h0 : Heap) (n0 : Nat) (v : Option Value) (h : Heap) (L : List Loc) : Prop := ∃ (r : Addr) (k : ClassId), v = some (.ref r) ∧ Fr n0 L ∧ Keep h0 h [] ∧ Arv Z h r k .double (1 : Int32) [(.double (FP.l2d a0.toInt64))] (.double (FP.l2d 0))
set_option maxRecDepth 65536 in
set_option maxHeartbeats 40000000 in
theorem own_rmmk1 (l : Launch) (Z : State) (aw : Array Value) (hw : ∀ d ∈ tables_1, d.before aw Z = true) (ws : List Jvm.Cond) (a0 : Int32) (a1 : Int32) (a2 : Int32) (h0 : Heap) (n0 : Nat) (Z0 : n0 ≤ h0.size)  :
    MetFree l (⟨"com/example/manyfront/manyfront/sorting/NondominatedSortingDominatesPinLaw", "make", "(IIII)[D"⟩ : MethodName) (head1 (Jvm.Cond.code (⟨"com/example/manyfront/manyfront/sorting/NondominatedSortingDominatesPinLaw", "make", "(IIII)[D"⟩ : MethodName) method_3_code 4 (some (.array .double)) :: ws) ({ frames := 0, cells := 1, slots := 1, locals := 0 } : Room)) (fun a U => a = #[(.int (1 : Int32)), (.int a0), (.int a1), (.int a2)] ∧ Z.Warmed39 U.vm ∧ U.heap = h0) (fun _ _ _ _ _ => True) (fun _ U o U' => ∃ v L, o = .returned v ∧ own_Qmk1 Z a0 a1 a2 h0 n0 v U'.heap L ∧ FrameEnd U o U' L ({ frames := 0, cells := 1, slots := 1, locals := 0 } : Room).cells ({ frames := 0, cells := 1, slots := 1, locals := 0 } : Room).slots) := by
  refine own_met (Q := own_Qmk1 Z a0 a1 a2 h0 n0) (plainFor_of_name own_pn1) ?_
  intro p e s m below meth c s₁ K hx hby hml hown hnm hret hZ X0 e0 hK
  have hown : s.vm.findClass "com/example/manyfront/manyfront/sorting/NondominatedSortingDominatesPinLaw" = some m.cls := hown
  have N0 := Fr.nil n0
  refine own_by (fun t k => castTop (own_efmk1 m a0 a1 a2) k) ?_
  show own_Go p.tables e below K (s₁.setTop (mkF m 0 #[.val (.int (1 : Int32)), .val (.int a0), .val (.int a1), .val (.int a2)] []))
  refine own_by (fun t k => XS.iloadN X0.here hx rfl (hb hby own_d1_0) rfl k) ?_
  show own_Go p.tables e below K (s₁.setTop (mkF m 1 #[.val (.int (1 : Int32)), .val (.int a0), .val (.int a1), .val (.int a2)] [(.int (1 : Int32))]))
  have hc1 : ¬ ((1 : Int32) = (0 : Int32)) := by decide
  refine own_by (fun t k => XS.ifYes X0.here hx rfl (pc0 := 1) (pc' := 8) rfl (hb hby own_d1_1) rfl ((if0 _ _).trans (feq hc1).2) (by decide) (by decide) k) ?_
  show own_Go p.tables e below K (s₁.setTop (mkF m 8 #[.val (.int (1 : Int32)), .val (.int a0), .val (.int a1), .val (.int a2)] []))
  refine own_by (fun t k => XS.iloadN X0.here hx rfl (hb hby own_d1_8) rfl k) ?_
  show own_Go p.tables e below K (s₁.setTop (mkF m 9 #[.val (.int (1 : Int32)), .val (.int a0), .val (.int a1), .val (.int a2)] [(.int (1 : Int32))]))
  refine own_by (fun t k => XS.iconst X0.here hx rfl (hb hby own_d1_9) k) ?_
  show own_Go p.tables e below K (s₁.setTop (mkF m 10 #[.val (.int (1 : Int32)), .val (.int a0), .val (.int a1), .val (.int a2)] [(.int (1 : Int32)), (.int (1 : Int32))]))
  have hc10 : (1 : Int32) = (1 : Int32) := by decide
  refine own_by (fun t k => XS.icmpNo X0.here hx rfl (hb hby own_d1_10) rfl (teq hc10).2 k) ?_
  show own_Go p.tables e below K (s₁.setTop (mkF m 13 #[.val (.int (1 : Int32)), .val (.int a0), .val (.int a1), .val (.int a2)] []))
  refine own_by (fun t k => XS.iconst X0.here hx rfl (hb hby own_d1_13) k) ?_
  show own_Go p.tables e below K (s₁.setTop (mkF m 14 #[.val (.int (1 : Int32)), .val (.int a0), .val (.int a1), .val (.int a2)] [(.int (1 : Int32))]))
  obtain ⟨T3, h3, k3, X3, e3, E3, A3, st3⟩ := newP X0 hx hZ (hw _ (List.mem_of_getElem? (i := 4) rfl)) e0 (g := (mkF m 14 #[.val (.int (1 : Int32)), .val (.int a0), .val (.int a1), .val (.int a2)] [(.int (1 : Int32))])) rfl (hb hby own_d1_14) rfl (by decide) (cap := 1) (by decide) (by decide) (by decide) (by decide)
  obtain ⟨b3, g3⟩ : ∃ z, z = h0.size := ⟨_, rfl⟩
  rw [← g3] at A3 st3
  refine own_by st3 ?_
  have gn_b3 : n0 ≤ b3 := Nat.le_trans Z0 (Nat.le_of_eq g3.symm)
  have sz_b3 : h0.size ≤ b3 := Nat.le_trans (Keep.refl h0 []).1 (Nat.le_of_eq g3.symm)
  have K3 := (Keep.refl h0 []).ext E3
  have Z3 := Nat.le_trans Z0 E3.1
  have V3 : Arv Z h3 b3 k3 .double (1 : Int32) [(.double (FP.l2d 0))] (.double (FP.l2d 0)) := (Arv.newD A3 (by decide)).pad (pad_rep [] (.double (FP.l2d 0)) 1)
  show own_Go p.tables e below K (T3.setTop (mkF m 16 #[.val (.int (1 : Int32)), .val (.int a0), .val (.int a1), .val (.int a2)] [(.ref b3)]))
  refine own_by (fun t k => XS.dup X3.here hx rfl (hb hby own_d1_16) rfl rfl k) ?_
  show own_Go p.tables e below K (T3.setTop (mkF m 17 #[.val (.int (1 : Int32)), .val (.int a0), .val (.int a1), .val (.int a2)] [(.ref b3), (.ref b3)]))
  refine own_by (fun t k => XS.iconst X3.here hx rfl (hb hby own_d1_17) k) ?_
  show own_Go p.tables e below K (T3.setTop (mkF m 18 #[.val (.int (1 : Int32)), .val (.int a0), .val (.int a1), .val (.int a2)] [(.int (0 : Int32)), (.ref b3), (.ref b3)]))
  refine own_by (fun t k => XS.iloadN X3.here hx rfl (hb hby own_d1_18) rfl k) ?_
  show own_Go p.tables e below K (T3.setTop (mkF m 19 #[.val (.int (1 : Int32)), .val (.int a0), .val (.int a1), .val (.int a2)] [(.int a0), (.int (0 : Int32)), (.ref b3), (.ref b3)]))
  refine own_by (fun t k => XS.i2dS X3.here hx rfl (hb hby own_d1_19) rfl (i2d_w _) k) ?_
  show own_Go p.tables e below K (T3.setTop (mkF m 20 #[.val (.int (1 : Int32)), .val (.int a0), .val (.int a1), .val (.int a2)] [(.double (FP.l2d a0.toInt64)), (.int (0 : Int32)), (.ref b3), (.ref b3)]))
  obtain ⟨cl4, Ar4, q4, S4, M4, H4, U4⟩ := id V3
  obtain ⟨T4, h4, X4, e4, W4, st4⟩ := stD X3 hx hZ e3 Ar4 (j := (0 : Int32)) (inb_of S4 ⟨by decide, by decide⟩) (g := (mkF m 20 #[.val (.int (1 : Int32)), .val (.int a0), .val (.int a1), .val (.int a2)] [(.double (FP.l2d a0.toInt64)), (.int (0 : Int32)), (.ref b3), (.ref b3)])) rfl rfl (hb hby own_d1_20)
  refine own_by st4 ?_
  have V4 : Arv Z h4 b3 k3 .double (1 : Int32) [(.double (FP.l2d a0.toInt64))] (.double (FP.l2d 0)) := Arv.set Ar4 q4 S4 M4 H4 U4 rfl W4 0 rfl (Nat.le_of_ble_eq_true rfl)
  have Z4 := Nat.le_trans Z3 (Keep.of_wr W4).1
  have K4 := K3.wr W4 (Or.inr sz_b3)
  have N4 := Fr.snoc X4 N0 gn_b3
  show own_Go p.tables e below K (T4.setTop (mkF m 21 #[.val (.int (1 : Int32)), .val (.int a0), .val (.int a1), .val (.int a2)] [(.ref b3)]))
  exact own_retA X4 hx hret rfl rfl rfl (hb hby own_d1_21) (hK (some (.ref b3)) X4 (fun h => by rw [hret] at h; cases h) (by rw [e4]; exact ⟨_, _, rfl, N4, K4, V4⟩) (by decide) (by decide))
theorem own_d2_10 : decode prog_73_method_2_code 10 = .ok (.aload_n 0, 1) := by decide +kernel
theorem own_d2_11 : decode prog_73_method_2_code 11 = .ok (.iload_n 3, 1) := by decide +kernel
theorem own_d2_12 : decode prog_73_method_2_code 12 = .ok (.daload, 1) := by decide +kernel
theorem own_d2_13 : decode prog_73_method_2_code 13 = .ok (.aload_n 1, 1) := by decide +kernel
theorem own_d2_14 : decode prog_73_method_2_code 14 = .ok (.iload_n 3, 1) := by decide +kernel
theorem own_d2_15 : decode prog_73_method_2_code 15 = .ok (.daload, 1) := by decide +kernel
theorem own_d2_16 : decode prog_73_method_2_code 16 = .ok (.dcmp .g, 1) := by decide +kernel
theorem own_d2_17 : decode prog_73_method_2_code 17 = .ok (.ifCond .le 5, 3) := by decide +kernel
theorem own_d2_20 : decode prog_73_method_2_code 20 = .ok (.iconst 0, 1) := by decide +kernel
theorem own_d2_21 : decode prog_73_method_2_code 21 = .ok (.ireturn, 1) := by decide +kernel
theorem own_d2_22 : decode prog_73_method_2_code 22 = .ok (.iload_n 2, 1) := by decide +kernel
theorem own_d2_23 : decode prog_73_method_2_code 23 = .ok (.aload_n 0, 1) := by decide +kernel
theorem own_d2_24 : decode prog_73_method_2_code 24 = .ok (.iload_n 3, 1) := by decide +kernel
theorem own_d2_25 : decode prog_73_method_2_code 25 = .ok (.daload, 1) := by decide +kernel
theorem own_d2_26 : decode prog_73_method_2_code 26 = .ok (.aload_n 1, 1) := by decide +kernel
theorem own_d2_27 : decode prog_73_method_2_code 27 = .ok (.iload_n 3, 1) := by decide +kernel
theorem own_d2_28 : decode prog_73_method_2_code 28 = .ok (.daload, 1) := by decide +kernel
theorem own_d2_29 : decode prog_73_method_2_code 29 = .ok (.dcmp .g, 1) := by decide +kernel
theorem own_d2_30 : decode prog_73_method_2_code 30 = .ok (.ifCond .ge 7, 3) := by decide +kernel
theorem own_d2_33 : decode prog_73_method_2_code 33 = .ok (.iconst 1, 1) := by decide +kernel
theorem own_d2_34 : decode prog_73_method_2_code 34 = .ok (.goto 4, 3) := by decide +kernel
theorem own_d2_37 : decode prog_73_method_2_code 37 = .ok (.iconst 0, 1) := by decide +kernel
theorem own_d2_38 : decode prog_73_method_2_code 38 = .ok (.ior, 1) := by decide +kernel
theorem own_d2_39 : decode prog_73_method_2_code 39 = .ok (.istore_n 2, 1) := by decide +kernel
theorem own_d2_40 : decode prog_73_method_2_code 40 = .ok (.iinc 3 1, 3) := by decide +kernel
theorem own_d2_43 : decode prog_73_method_2_code 43 = .ok (.goto (-39), 3) := by decide +kernel
theorem own_efdm1 (m : MethodId) (ra : Addr) (rb : Addr) : entryFrame m #[(.ref ra), (.ref rb)] 4 = mkF m 0 #[.val (.ref ra), .val (.ref rb), .unset, .unset] [] := by first | (simp [entryFrame, mkF, argsToLocals, Value.category]; done) | rfl
def own_Qdm1 (Z : State) (ra : Addr) (rb : Addr) (ka : ClassId) (kb : ClassId) (a0 : Int32) (b0 : Int32) (h0 : Heap) (n0 : Nat) (v : Option Value) (h : Heap) (L : List Loc) : Prop := v = some (.int (own_dom1 a0 b0)) ∧ Fr n0 L ∧ h = h0
set_option maxRecDepth 65536 in
set_option maxHeartbeats 40000000 in
theorem own_rmdm1 (l : Launch) (Z : State) (aw : Array Value) (hw : ∀ d ∈ tables_1, d.before aw Z = true) (ws : List Jvm.Cond) (ra : Addr) (rb : Addr) (ka : ClassId) (kb : ClassId) (a0 : Int32) (b0 : Int32) (h0 : Heap) (n0 : Nat) (Z0 : n0 ≤ h0.size) (VA : Arv Z h0 ra ka .double (1 : Int32) [(.double (FP.l2d a0.toInt64))] (.double (FP.l2d 0))) (VB : Arv Z h0 rb kb .double (1 : Int32) [(.double (FP.l2d b0.toInt64))] (.double (FP.l2d 0))) :
    MetFree l (⟨"com/example/manyfront/manyfront/sorting/NondominatedSorting", "dominates", "([D[D)Z"⟩ : MethodName) (head1 (Jvm.Cond.code (⟨"com/example/manyfront/manyfront/sorting/NondominatedSorting", "dominates", "([D[D)Z"⟩ : MethodName) prog_73_method_2_code 4 (some .boolean) :: ws) ({ frames := 0, cells := 0, slots := 0, locals := 0 } : Room)) (fun a U => a = #[(.ref ra), (.ref rb)] ∧ Z.Warmed39 U.vm ∧ U.heap = h0) (fun _ _ _ _ _ => True) (fun _ U o U' => ∃ v L, o = .returned v ∧ own_Qdm1 Z ra rb ka kb a0 b0 h0 n0 v U'.heap L ∧ FrameEnd U o U' L ({ frames := 0, cells := 0, slots := 0, locals := 0 } : Room).cells ({ frames := 0, cells := 0, slots := 0, locals := 0 } : Room).slots) := by
  refine own_met (Q := own_Qdm1 Z ra rb ka kb a0 b0 h0 n0) (plainFor_of_name own_pn2) ?_
  intro p e s m below meth c s₁ K hx hby hml hown hnm hret hZ X0 e0 hK
  have hown : s.vm.findClass "com/example/manyfront/manyfront/sorting/NondominatedSorting" = some m.cls := hown
  have N0 := Fr.nil n0
  refine own_by (fun t k => castTop (own_efdm1 m ra rb) k) ?_
  show own_Go p.tables e below K (s₁.setTop (mkF m 0 #[.val (.ref ra), .val (.ref rb), .unset, .unset] []))
  refine own_by (fun t k => XS.iconst X0.here hx rfl (hb hby own_d2_0) k) ?_
  show own_Go p.tables e below K (s₁.setTop (mkF m 1 #[.val (.ref ra), .val (.ref rb), .unset, .unset] [(.int (0 : Int32))]))
  refine own_by (fun t k => XS.istoreN X0.here hx rfl (hb hby own_d2_1) rfl (l' := #[.val (.ref ra), .val (.ref rb), .val (.int (0 : Int32)), .unset]) rfl k) ?_
  show own_Go p.tables e below K (s₁.setTop (mkF m 2 #[.val (.ref ra), .val (.ref rb), .val (.int (0 : Int32)), .unset] []))
  refine own_by (fun t k => XS.iconst X0.here hx rfl (hb hby own_d2_2) k) ?_
  show own_Go p.tables e below K (s₁.setTop (mkF m 3 #[.val (.ref ra), .val (.ref rb), .val (.int (0 : Int32)), .unset] [(.int (0 : Int32))]))
  refine own_by (fun t k => XS.istoreN X0.here hx rfl (hb hby own_d2_3) rfl (l' := #[.val (.ref ra), .val (.ref rb), .val (.int (0 : Int32)), .val (.int (0 : Int32))]) rfl k) ?_
  show own_Go p.tables e below K (s₁.setTop (mkF m 4 #[.val (.ref ra), .val (.ref rb), .val (.int (0 : Int32)), .val (.int (0 : Int32))] []))
  refine own_by (fun t k => XS.iloadN X0.here hx rfl (hb hby own_d2_4) rfl k) ?_
  show own_Go p.tables e below K (s₁.setTop (mkF m 5 #[.val (.ref ra), .val (.ref rb), .val (.int (0 : Int32)), .val (.int (0 : Int32))] [(.int (0 : Int32))]))
  refine own_by (fun t k => XS.aloadN X0.here hx rfl (hb hby own_d2_5) rfl rfl k) ?_
  show own_Go p.tables e below K (s₁.setTop (mkF m 6 #[.val (.ref ra), .val (.ref rb), .val (.int (0 : Int32)), .val (.int (0 : Int32))] [(.ref ra), (.int (0 : Int32))]))
  obtain ⟨cl5, Ar5, -, S5, M5, -, -⟩ := id VA
  refine own_by (fun t k => X0.arraylength hx (by rw [e0]; exact Ar5.1) (State.isArrayOf_alike hZ.alike Ar5.2.1) (g := (mkF m 6 #[.val (.ref ra), .val (.ref rb), .val (.int (0 : Int32)), .val (.int (0 : Int32))] [(.ref ra), (.int (0 : Int32))])) rfl rfl (hb hby own_d2_6) t k) ?_
  rw [len_of S5 M5]
  show own_Go p.tables e below K (s₁.setTop (mkF m 7 #[.val (.ref ra), .val (.ref rb), .val (.int (0 : Int32)), .val (.int (0 : Int32))] [(.int (1 : Int32)), (.int (0 : Int32))]))
  have hc7 : (0 : Int32) < (1 : Int32) := by decide
  refine own_by (fun t k => XS.icmpNo X0.here hx rfl (hb hby own_d2_7) rfl (tlt hc7).2.1 k) ?_
  show own_Go p.tables e below K (s₁.setTop (mkF m 10 #[.val (.ref ra), .val (.ref rb), .val (.int (0 : Int32)), .val (.int (0 : Int32))] []))
  refine own_by (fun t k => XS.aloadN X0.here hx rfl (hb hby own_d2_10) rfl rfl k) ?_
  show own_Go p.tables e below K (s₁.setTop (mkF m 11 #[.val (.ref ra), .val (.ref rb), .val (.int (0 : Int32)), .val (.int (0 : Int32))] [(.ref ra)]))
  refine own_by (fun t k => XS.iloadN X0.here hx rfl (hb hby own_d2_11) rfl k) ?_
  show own_Go p.tables e below K (s₁.setTop (mkF m 12 #[.val (.ref ra), .val (.ref rb), .val (.int (0 : Int32)), .val (.int (0 : Int32))] [(.int (0 : Int32)), (.ref ra)]))
  obtain ⟨cl6, Ar6, -, S6, M6, H6, -⟩ := id VA
  refine own_by (fun t k => X0.daload hx (j := (0 : Int32)) (v := (.double (FP.l2d a0.toInt64))) (by rw [e0]; exact Ar6.1) (State.isArrayOf_alike hZ.alike Ar6.2.1) Ar6.2.2 (inb_of S6 ⟨by decide, by decide⟩) (H6 0 (by rw [S6]; decide)) (g := (mkF m 12 #[.val (.ref ra), .val (.ref rb), .val (.int (0 : Int32)), .val (.int (0 : Int32))] [(.int (0 : Int32)), (.ref ra)])) rfl rfl (hb hby own_d2_12) t k) ?_
  show own_Go p.tables e below K (s₁.setTop (mkF m 13 #[.val (.ref ra), .val (.ref rb), .val (.int (0 : Int32)), .val (.int (0 : Int32))] [(.double (FP.l2d a0.toInt64))]))
  refine own_by (fun t k => XS.aloadN X0.here hx rfl (hb hby own_d2_13) rfl rfl k) ?_
  show own_Go p.tables e below K (s₁.setTop (mkF m 14 #[.val (.ref ra), .val (.ref rb), .val (.int (0 : Int32)), .val (.int (0 : Int32))] [(.ref rb), (.double (FP.l2d a0.toInt64))]))
  refine own_by (fun t k => XS.iloadN X0.here hx rfl (hb hby own_d2_14) rfl k) ?_
  show own_Go p.tables e below K (s₁.setTop (mkF m 15 #[.val (.ref ra), .val (.ref rb), .val (.int (0 : Int32)), .val (.int (0 : Int32))] [(.int (0 : Int32)), (.ref rb), (.double (FP.l2d a0.toInt64))]))
  obtain ⟨cl7, Ar7, -, S7, M7, H7, -⟩ := id VB
  refine own_by (fun t k => X0.daload hx (j := (0 : Int32)) (v := (.double (FP.l2d b0.toInt64))) (by rw [e0]; exact Ar7.1) (State.isArrayOf_alike hZ.alike Ar7.2.1) Ar7.2.2 (inb_of S7 ⟨by decide, by decide⟩) (H7 0 (by rw [S7]; decide)) (g := (mkF m 15 #[.val (.ref ra), .val (.ref rb), .val (.int (0 : Int32)), .val (.int (0 : Int32))] [(.int (0 : Int32)), (.ref rb), (.double (FP.l2d a0.toInt64))])) rfl rfl (hb hby own_d2_15) t k) ?_
  show own_Go p.tables e below K (s₁.setTop (mkF m 16 #[.val (.ref ra), .val (.ref rb), .val (.int (0 : Int32)), .val (.int (0 : Int32))] [(.double (FP.l2d b0.toInt64)), (.double (FP.l2d a0.toInt64))]))
  refine own_by (fun t k => XS.dcmpS X0.here hx rfl (hb hby own_d2_16) rfl (dcmpV_w (own_b53 _) (own_b53 _) _) k) ?_
  show own_Go p.tables e below K (s₁.setTop (mkF m 17 #[.val (.ref ra), .val (.ref rb), .val (.int (0 : Int32)), .val (.int (0 : Int32))] [(.int (lcmpW a0.toInt64 b0.toInt64))]))
  by_cases hc17 : b0.toInt64 < a0.toInt64
  · refine own_by (fun t k => XS.ifNo X0.here hx rfl (hb hby own_d2_17) rfl (own_lgt hc17).2 k) ?_
    show own_Go p.tables e below K (s₁.setTop (mkF m 20 #[.val (.ref ra), .val (.ref rb), .val (.int (0 : Int32)), .val (.int (0 : Int32))] []))
    refine own_by (fun t k => XS.iconst X0.here hx rfl (hb hby own_d2_20) k) ?_
    show own_Go p.tables e below K (s₁.setTop (mkF m 21 #[.val (.ref ra), .val (.ref rb), .val (.int (0 : Int32)), .val (.int (0 : Int32))] [(.int (0 : Int32))]))
    exact own_retZ X0 hx (t := .boolean) hret (by simp) (hb hby own_d2_21) (hK (some (.int (0 : Int32))) X0 (fun h => by rw [hret] at h; cases h) ⟨by simp_all [own_dom1, own_i64], N0, e0⟩ (by decide) (by decide))
  · refine own_by (fun t k => XS.ifYes X0.here hx rfl (pc0 := 17) (pc' := 22) rfl (hb hby own_d2_17) rfl (own_lle hc17).2 (by decide) (by decide) k) ?_
    show own_Go p.tables e below K (s₁.setTop (mkF m 22 #[.val (.ref ra), .val (.ref rb), .val (.int (0 : Int32)), .val (.int (0 : Int32))] []))
    refine own_by (fun t k => XS.iloadN X0.here hx rfl (hb hby own_d2_22) rfl k) ?_
    show own_Go p.tables e below K (s₁.setTop (mkF m 23 #[.val (.ref ra), .val (.ref rb), .val (.int (0 : Int32)), .val (.int (0 : Int32))] [(.int (0 : Int32))]))
    refine own_by (fun t k => XS.aloadN X0.here hx rfl (hb hby own_d2_23) rfl rfl k) ?_
    show own_Go p.tables e below K (s₁.setTop (mkF m 24 #[.val (.ref ra), .val (.ref rb), .val (.int (0 : Int32)), .val (.int (0 : Int32))] [(.ref ra), (.int (0 : Int32))]))
    refine own_by (fun t k => XS.iloadN X0.here hx rfl (hb hby own_d2_24) rfl k) ?_
    show own_Go p.tables e below K (s₁.setTop (mkF m 25 #[.val (.ref ra), .val (.ref rb), .val (.int (0 : Int32)), .val (.int (0 : Int32))] [(.int (0 : Int32)), (.ref ra), (.int (0 : Int32))]))
    obtain ⟨cl8, Ar8, -, S8, M8, H8, -⟩ := id VA
    refine own_by (fun t k => X0.daload hx (j := (0 : Int32)) (v := (.double (FP.l2d a0.toInt64))) (by rw [e0]; exact Ar8.1) (State.isArrayOf_alike hZ.alike Ar8.2.1) Ar8.2.2 (inb_of S8 ⟨by decide, by decide⟩) (H8 0 (by rw [S8]; decide)) (g := (mkF m 25 #[.val (.ref ra), .val (.ref rb), .val (.int (0 : Int32)), .val (.int (0 : Int32))] [(.int (0 : Int32)), (.ref ra), (.int (0 : Int32))])) rfl rfl (hb hby own_d2_25) t k) ?_
    show own_Go p.tables e below K (s₁.setTop (mkF m 26 #[.val (.ref ra), .val (.ref rb), .val (.int (0 : Int32)), .val (.int (0 : Int32))] [(.double (FP.l2d a0.toInt64)), (.int (0 : Int32))]))
    refine own_by (fun t k => XS.aloadN X0.here hx rfl (hb hby own_d2_26) rfl rfl k) ?_
    show own_Go p.tables e below K (s₁.setTop (mkF m 27 #[.val (.ref ra), .val (.ref rb), .val (.int (0 : Int32)), .val (.int (0 : Int32))] [(.ref rb), (.double (FP.l2d a0.toInt64)), (.int (0 : Int32))]))
    refine own_by (fun t k => XS.iloadN X0.here hx rfl (hb hby own_d2_27) rfl k) ?_
    show own_Go p.tables e below K (s₁.setTop (mkF m 28 #[.val (.ref ra), .val (.ref rb), .val (.int (0 : Int32)), .val (.int (0 : Int32))] [(.int (0 : Int32)), (.ref rb), (.double (FP.l2d a0.toInt64)), (.int (0 : Int32))]))
    obtain ⟨cl9, Ar9, -, S9, M9, H9, -⟩ := id VB
    refine own_by (fun t k => X0.daload hx (j := (0 : Int32)) (v := (.double (FP.l2d b0.toInt64))) (by rw [e0]; exact Ar9.1) (State.isArrayOf_alike hZ.alike Ar9.2.1) Ar9.2.2 (inb_of S9 ⟨by decide, by decide⟩) (H9 0 (by rw [S9]; decide)) (g := (mkF m 28 #[.val (.ref ra), .val (.ref rb), .val (.int (0 : Int32)), .val (.int (0 : Int32))] [(.int (0 : Int32)), (.ref rb), (.double (FP.l2d a0.toInt64)), (.int (0 : Int32))])) rfl rfl (hb hby own_d2_28) t k) ?_
    show own_Go p.tables e below K (s₁.setTop (mkF m 29 #[.val (.ref ra), .val (.ref rb), .val (.int (0 : Int32)), .val (.int (0 : Int32))] [(.double (FP.l2d b0.toInt64)), (.double (FP.l2d a0.toInt64)), (.int (0 : Int32))]))
    refine own_by (fun t k => XS.dcmpS X0.here hx rfl (hb hby own_d2_29) rfl (dcmpV_w (own_b53 _) (own_b53 _) _) k) ?_
    show own_Go p.tables e below K (s₁.setTop (mkF m 30 #[.val (.ref ra), .val (.ref rb), .val (.int (0 : Int32)), .val (.int (0 : Int32))] [(.int (lcmpW a0.toInt64 b0.toInt64)), (.int (0 : Int32))]))
    by_cases hc30 : a0.toInt64 < b0.toInt64
    · refine own_by (fun t k => XS.ifNo X0.here hx rfl (hb hby own_d2_30) rfl (own_llt hc30).2 k) ?_
      show own_Go p.tables e below K (s₁.setTop (mkF m 33 #[.val (.ref ra), .val (.ref rb), .val (.int (0 : Int32)), .val (.int (0 : Int32))] [(.int (0 : Int32))]))
      refine own_by (fun t k => XS.iconst X0.here hx rfl (hb hby own_d2_33) k) ?_
      show own_Go p.tables e below K (s₁.setTop (mkF m 34 #[.val (.ref ra), .val (.ref rb), .val (.int (0 : Int32)), .val (.int (0 : Int32))] [(.int (1 : Int32)), (.int (0 : Int32))]))
      refine own_by (fun t k => XS.goto X0.here hx rfl (pc0 := 34) (pc' := 38) rfl (hb hby own_d2_34) (by decide) (by decide) k) ?_
      show own_Go p.tables e below K (s₁.setTop (mkF m 38 #[.val (.ref ra), .val (.ref rb), .val (.int (0 : Int32)), .val (.int (0 : Int32))] [(.int (1 : Int32)), (.int (0 : Int32))]))
      refine own_by (fun t k => XS.ior X0.here hx rfl (hb hby own_d2_38) rfl k) ?_
      show own_Go p.tables e below K (s₁.setTop (mkF m 39 #[.val (.ref ra), .val (.ref rb), .val (.int (0 : Int32)), .val (.int (0 : Int32))] [(.int (1 : Int32))]))
      refine own_by (fun t k => XS.istoreN X0.here hx rfl (hb hby own_d2_39) rfl (l' := #[.val (.ref ra), .val (.ref rb), .val (.int (1 : Int32)), .val (.int (0 : Int32))]) rfl k) ?_
      show own_Go p.tables e below K (s₁.setTop (mkF m 40 #[.val (.ref ra), .val (.ref rb), .val (.int (1 : Int32)), .val (.int (0 : Int32))] []))
      refine own_by (fun t k => XS.iinc X0.here hx rfl (hb hby own_d2_40) rfl (l' := #[.val (.ref ra), .val (.ref rb), .val (.int (1 : Int32)), .val (.int (1 : Int32))]) rfl k) ?_
      show own_Go p.tables e below K (s₁.setTop (mkF m 43 #[.val (.ref ra), .val (.ref rb), .val (.int (1 : Int32)), .val (.int (1 : Int32))] []))
      refine own_by (fun t k => XS.goto X0.here hx rfl (pc0 := 43) (pc' := 4) rfl (hb hby own_d2_43) (by decide) (by decide) k) ?_
      show own_Go p.tables e below K (s₁.setTop (mkF m 4 #[.val (.ref ra), .val (.ref rb), .val (.int (1 : Int32)), .val (.int (1 : Int32))] []))
      refine own_by (fun t k => XS.iloadN X0.here hx rfl (hb hby own_d2_4) rfl k) ?_
      show own_Go p.tables e below K (s₁.setTop (mkF m 5 #[.val (.ref ra), .val (.ref rb), .val (.int (1 : Int32)), .val (.int (1 : Int32))] [(.int (1 : Int32))]))
      refine own_by (fun t k => XS.aloadN X0.here hx rfl (hb hby own_d2_5) rfl rfl k) ?_
      show own_Go p.tables e below K (s₁.setTop (mkF m 6 #[.val (.ref ra), .val (.ref rb), .val (.int (1 : Int32)), .val (.int (1 : Int32))] [(.ref ra), (.int (1 : Int32))]))
      obtain ⟨cl10, Ar10, -, S10, M10, -, -⟩ := id VA
      refine own_by (fun t k => X0.arraylength hx (by rw [e0]; exact Ar10.1) (State.isArrayOf_alike hZ.alike Ar10.2.1) (g := (mkF m 6 #[.val (.ref ra), .val (.ref rb), .val (.int (1 : Int32)), .val (.int (1 : Int32))] [(.ref ra), (.int (1 : Int32))])) rfl rfl (hb hby own_d2_6) t k) ?_
      rw [len_of S10 M10]
      show own_Go p.tables e below K (s₁.setTop (mkF m 7 #[.val (.ref ra), .val (.ref rb), .val (.int (1 : Int32)), .val (.int (1 : Int32))] [(.int (1 : Int32)), (.int (1 : Int32))]))
      have hc7 : ¬ ((1 : Int32) < (1 : Int32)) := by decide
      refine own_by (fun t k => XS.icmpYes X0.here hx rfl (pc0 := 7) (pc' := 46) rfl (hb hby own_d2_7) rfl (flt hc7).2.1 (by decide) (by decide) k) ?_
      show own_Go p.tables e below K (s₁.setTop (mkF m 46 #[.val (.ref ra), .val (.ref rb), .val (.int (1 : Int32)), .val (.int (1 : Int32))] []))
      refine own_by (fun t k => XS.iloadN X0.here hx rfl (hb hby own_d2_46) rfl k) ?_
      show own_Go p.tables e below K (s₁.setTop (mkF m 47 #[.val (.ref ra), .val (.ref rb), .val (.int (1 : Int32)), .val (.int (1 : Int32))] [(.int (1 : Int32))]))
      exact own_retZ X0 hx (t := .boolean) hret (by simp) (hb hby own_d2_47) (hK (some (.int (1 : Int32))) X0 (fun h => by rw [hret] at h; cases h) ⟨by simp_all [own_dom1, own_i64], N0, e0⟩ (by decide) (by decide))
    · refine own_by (fun t k => XS.ifYes X0.here hx rfl (pc0 := 30) (pc' := 37) rfl (hb hby own_d2_30) rfl (own_lge hc30).2 (by decide) (by decide) k) ?_
      show own_Go p.tables e below K (s₁.setTop (mkF m 37 #[.val (.ref ra), .val (.ref rb), .val (.int (0 : Int32)), .val (.int (0 : Int32))] [(.int (0 : Int32))]))
      refine own_by (fun t k => XS.iconst X0.here hx rfl (hb hby own_d2_37) k) ?_
      show own_Go p.tables e below K (s₁.setTop (mkF m 38 #[.val (.ref ra), .val (.ref rb), .val (.int (0 : Int32)), .val (.int (0 : Int32))] [(.int (0 : Int32)), (.int (0 : Int32))]))
      refine own_by (fun t k => XS.ior X0.here hx rfl (hb hby own_d2_38) rfl k) ?_
      show own_Go p.tables e below K (s₁.setTop (mkF m 39 #[.val (.ref ra), .val (.ref rb), .val (.int (0 : Int32)), .val (.int (0 : Int32))] [(.int (0 : Int32))]))
      refine own_by (fun t k => XS.istoreN X0.here hx rfl (hb hby own_d2_39) rfl (l' := #[.val (.ref ra), .val (.ref rb), .val (.int (0 : Int32)), .val (.int (0 : Int32))]) rfl k) ?_
      show own_Go p.tables e below K (s₁.setTop (mkF m 40 #[.val (.ref ra), .val (.ref rb), .val (.int (0 : Int32)), .val (.int (0 : Int32))] []))
      refine own_by (fun t k => XS.iinc X0.here hx rfl (hb hby own_d2_40) rfl (l' := #[.val (.ref ra), .val (.ref rb), .val (.int (0 : Int32)), .val (.int (1 : Int32))]) rfl k) ?_
      show own_Go p.tables e below K (s₁.setTop (mkF m 43 #[.val (.ref ra), .val (.ref rb), .val (.int (0 : Int32)), .val (.int (1 : Int32))] []))
      refine own_by (fun t k => XS.goto X0.here hx rfl (pc0 := 43) (pc' := 4) rfl (hb hby own_d2_43) (by decide) (by decide) k) ?_
      show own_Go p.tables e below K (s₁.setTop (mkF m 4 #[.val (.ref ra), .val (.ref rb), .val (.int (0 : Int32)), .val (.int (1 : Int32))] []))
      refine own_by (fun t k => XS.iloadN X0.here hx rfl (hb hby own_d2_4) rfl k) ?_
      show own_Go p.tables e below K (s₁.setTop (mkF m 5 #[.val (.ref ra), .val (.ref rb), .val (.int (0 : Int32)), .val (.int (1 : Int32))] [(.int (1 : Int32))]))
      refine own_by (fun t k => XS.aloadN X0.here hx rfl (hb hby own_d2_5) rfl rfl k) ?_
      show own_Go p.tables e below K (s₁.setTop (mkF m 6 #[.val (.ref ra), .val (.ref rb), .val (.int (0 : Int32)), .val (.int (1 : Int32))] [(.ref ra), (.int (1 : Int32))]))
      obtain ⟨cl11, Ar11, -, S11, M11, -, -⟩ := id VA
      refine own_by (fun t k => X0.arraylength hx (by rw [e0]; exact Ar11.1) (State.isArrayOf_alike hZ.alike Ar11.2.1) (g := (mkF m 6 #[.val (.ref ra), .val (.ref rb), .val (.int (0 : Int32)), .val (.int (1 : Int32))] [(.ref ra), (.int (1 : Int32))])) rfl rfl (hb hby own_d2_6) t k) ?_
      rw [len_of S11 M11]
      show own_Go p.tables e below K (s₁.setTop (mkF m 7 #[.val (.ref ra), .val (.ref rb), .val (.int (0 : Int32)), .val (.int (1 : Int32))] [(.int (1 : Int32)), (.int (1 : Int32))]))
      have hc7 : ¬ ((1 : Int32) < (1 : Int32)) := by decide
      refine own_by (fun t k => XS.icmpYes X0.here hx rfl (pc0 := 7) (pc' := 46) rfl (hb hby own_d2_7) rfl (flt hc7).2.1 (by decide) (by decide) k) ?_
      show own_Go p.tables e below K (s₁.setTop (mkF m 46 #[.val (.ref ra), .val (.ref rb), .val (.int (0 : Int32)), .val (.int (1 : Int32))] []))
      refine own_by (fun t k => XS.iloadN X0.here hx rfl (hb hby own_d2_46) rfl k) ?_
      show own_Go p.tables e below K (s₁.setTop (mkF m 47 #[.val (.ref ra), .val (.ref rb), .val (.int (0 : Int32)), .val (.int (1 : Int32))] [(.int (0 : Int32))]))
      exact own_retZ X0 hx (t := .boolean) hret (by simp) (hb hby own_d2_47) (hK (some (.int (0 : Int32))) X0 (fun h => by rw [hret] at h; cases h) ⟨by simp_all [own_dom1, own_i64], N0, e0⟩ (by decide) (by decide))
theorem own_d1_22 : decode method_3_code 22 = .ok (.iload_n 0, 1) := by decide +kernel
theorem own_d1_23 : decode method_3_code 23 = .ok (.iconst 2, 1) := by decide +kernel
theorem own_d1_24 : decode method_3_code 24 = .ok (.if_icmp .ne 17, 3) := by decide +kernel
theorem own_d1_27 : decode method_3_code 27 = .ok (.iconst 2, 1) := by decide +kernel
theorem own_d1_28 : decode method_3_code 28 = .ok (.newarray .double, 2) := by decide +kernel
theorem own_d1_30 : decode method_3_code 30 = .ok (.dup, 1) := by decide +kernel
theorem own_d1_31 : decode method_3_code 31 = .ok (.iconst 0, 1) := by decide +kernel
theorem own_d1_32 : decode method_3_code 32 = .ok (.iload_n 1, 1) := by decide +kernel
theorem own_d1_33 : decode method_3_code 33 = .ok (.i2d, 1) := by decide +kernel
theorem own_d1_34 : decode method_3_code 34 = .ok (.dastore, 1) := by decide +kernel
theorem own_d1_35 : decode method_3_code 35 = .ok (.dup, 1) := by decide +kernel
theorem own_d1_36 : decode method_3_code 36 = .ok (.iconst 1, 1) := by decide +kernel
theorem own_d1_37 : decode method_3_code 37 = .ok (.iload_n 2, 1) := by decide +kernel
theorem own_d1_38 : decode method_3_code 38 = .ok (.i2d, 1) := by decide +kernel
theorem own_d1_39 : decode method_3_code 39 = .ok (.dastore, 1) := by decide +kernel
theorem own_d1_40 : decode method_3_code 40 = .ok (.areturn, 1) := by decide +kernel
theorem own_efmk2 (m : MethodId) (a0 : Int32) (a1 : Int32) (a2 : Int32) : entryFrame m #[(.int (2 : Int32)), (.int a0), (.int a1), (.int a2)] 4 = mkF m 0 #[.val (.int (2 : Int32)), .val (.int a0), .val (.int a1), .val (.int a2)] [] := by first | (simp [entryFrame, mkF, argsToLocals, Value.category]; done) | rfl
def own_Qmk2 (Z : State) (a0 : Int32) (a1 : Int32) (a2 : Int32) (h0 : Heap) (n0 : Nat) (v : Option Value) (h : Heap) (L : List Loc) : Prop := ∃ (r : Addr) (k : ClassId), v = some (.ref r) ∧ Fr n0 L ∧ Keep h0 h [] ∧ Arv Z h r k .double (2 : Int32) [(.double (FP.l2d a0.toInt64)), (.double (FP.l2d a1.toInt64))] (.double (FP.l2d 0))
set_option maxRecDepth 65536 in
set_option maxHeartbeats 40000000 in
theorem own_rmmk2 (l : Launch) (Z : State) (aw : Array Value) (hw : ∀ d ∈ tables_1, d.before aw Z = true) (ws : List Jvm.Cond) (a0 : Int32) (a1 : Int32) (a2 : Int32) (h0 : Heap) (n0 : Nat) (Z0 : n0 ≤ h0.size)  :
    MetFree l (⟨"com/example/manyfront/manyfront/sorting/NondominatedSortingDominatesPinLaw", "make", "(IIII)[D"⟩ : MethodName) (head1 (Jvm.Cond.code (⟨"com/example/manyfront/manyfront/sorting/NondominatedSortingDominatesPinLaw", "make", "(IIII)[D"⟩ : MethodName) method_3_code 4 (some (.array .double)) :: ws) ({ frames := 0, cells := 1, slots := 2, locals := 0 } : Room)) (fun a U => a = #[(.int (2 : Int32)), (.int a0), (.int a1), (.int a2)] ∧ Z.Warmed39 U.vm ∧ U.heap = h0) (fun _ _ _ _ _ => True) (fun _ U o U' => ∃ v L, o = .returned v ∧ own_Qmk2 Z a0 a1 a2 h0 n0 v U'.heap L ∧ FrameEnd U o U' L ({ frames := 0, cells := 1, slots := 2, locals := 0 } : Room).cells ({ frames := 0, cells := 1, slots := 2, locals := 0 } : Room).slots) := by
  refine own_met (Q := own_Qmk2 Z a0 a1 a2 h0 n0) (plainFor_of_name own_pn1) ?_
  intro p e s m below meth c s₁ K hx hby hml hown hnm hret hZ X0 e0 hK
  have hown : s.vm.findClass "com/example/manyfront/manyfront/sorting/NondominatedSortingDominatesPinLaw" = some m.cls := hown
  have N0 := Fr.nil n0
  refine own_by (fun t k => castTop (own_efmk2 m a0 a1 a2) k) ?_
  show own_Go p.tables e below K (s₁.setTop (mkF m 0 #[.val (.int (2 : Int32)), .val (.int a0), .val (.int a1), .val (.int a2)] []))
  refine own_by (fun t k => XS.iloadN X0.here hx rfl (hb hby own_d1_0) rfl k) ?_
  show own_Go p.tables e below K (s₁.setTop (mkF m 1 #[.val (.int (2 : Int32)), .val (.int a0), .val (.int a1), .val (.int a2)] [(.int (2 : Int32))]))
  have hc1 : ¬ ((2 : Int32) = (0 : Int32)) := by decide
  refine own_by (fun t k => XS.ifYes X0.here hx rfl (pc0 := 1) (pc' := 8) rfl (hb hby own_d1_1) rfl ((if0 _ _).trans (feq hc1).2) (by decide) (by decide) k) ?_
  show own_Go p.tables e below K (s₁.setTop (mkF m 8 #[.val (.int (2 : Int32)), .val (.int a0), .val (.int a1), .val (.int a2)] []))
  refine own_by (fun t k => XS.iloadN X0.here hx rfl (hb hby own_d1_8) rfl k) ?_
  show own_Go p.tables e below K (s₁.setTop (mkF m 9 #[.val (.int (2 : Int32)), .val (.int a0), .val (.int a1), .val (.int a2)] [(.int (2 : Int32))]))
  refine own_by (fun t k => XS.iconst X0.here hx rfl (hb hby own_d1_9) k) ?_
  show own_Go p.tables e below K (s₁.setTop (mkF m 10 #[.val (.int (2 : Int32)), .val (.int a0), .val (.int a1), .val (.int a2)] [(.int (1 : Int32)), (.int (2 : Int32))]))
  have hc10 : ¬ ((2 : Int32) = (1 : Int32)) := by decide
  refine own_by (fun t k => XS.icmpYes X0.here hx rfl (pc0 := 10) (pc' := 22) rfl (hb hby own_d1_10) rfl (feq hc10).2 (by decide) (by decide) k) ?_
  show own_Go p.tables e below K (s₁.setTop (mkF m 22 #[.val (.int (2 : Int32)), .val (.int a0), .val (.int a1), .val (.int a2)] []))
  refine own_by (fun t k => XS.iloadN X0.here hx rfl (hb hby own_d1_22) rfl k) ?_
  show own_Go p.tables e below K (s₁.setTop (mkF m 23 #[.val (.int (2 : Int32)), .val (.int a0), .val (.int a1), .val (.int a2)] [(.int (2 : Int32))]))
  refine own_by (fun t k => XS.iconst X0.here hx rfl (hb hby own_d1_23) k) ?_
  show own_Go p.tables e below K (s₁.setTop (mkF m 24 #[.val (.int (2 : Int32)), .val (.int a0), .val (.int a1), .val (.int a2)] [(.int (2 : Int32)), (.int (2 : Int32))]))
  have hc24 : (2 : Int32) = (2 : Int32) := by decide
  refine own_by (fun t k => XS.icmpNo X0.here hx rfl (hb hby own_d1_24) rfl (teq hc24).2 k) ?_
  show own_Go p.tables e below K (s₁.setTop (mkF m 27 #[.val (.int (2 : Int32)), .val (.int a0), .val (.int a1), .val (.int a2)] []))
  refine own_by (fun t k => XS.iconst X0.here hx rfl (hb hby own_d1_27) k) ?_
  show own_Go p.tables e below K (s₁.setTop (mkF m 28 #[.val (.int (2 : Int32)), .val (.int a0), .val (.int a1), .val (.int a2)] [(.int (2 : Int32))]))
  obtain ⟨T12, h12, k12, X12, e12, E12, A12, st12⟩ := newP X0 hx hZ (hw _ (List.mem_of_getElem? (i := 4) rfl)) e0 (g := (mkF m 28 #[.val (.int (2 : Int32)), .val (.int a0), .val (.int a1), .val (.int a2)] [(.int (2 : Int32))])) rfl (hb hby own_d1_28) rfl (by decide) (cap := 2) (by decide) (by decide) (by decide) (by decide)
  obtain ⟨b12, g12⟩ : ∃ z, z = h0.size := ⟨_, rfl⟩
  rw [← g12] at A12 st12
  refine own_by st12 ?_
  have gn_b12 : n0 ≤ b12 := Nat.le_trans Z0 (Nat.le_of_eq g12.symm)
  have sz_b12 : h0.size ≤ b12 := Nat.le_trans (Keep.refl h0 []).1 (Nat.le_of_eq g12.symm)
  have K12 := (Keep.refl h0 []).ext E12
  have Z12 := Nat.le_trans Z0 E12.1
  have V12 : Arv Z h12 b12 k12 .double (2 : Int32) [(.double (FP.l2d 0)), (.double (FP.l2d 0))] (.double (FP.l2d 0)) := (Arv.newD A12 (by decide)).pad (pad_rep [] (.double (FP.l2d 0)) 2)
  show own_Go p.tables e below K (T12.setTop (mkF m 30 #[.val (.int (2 : Int32)), .val (.int a0), .val (.int a1), .val (.int a2)] [(.ref b12)]))
  refine own_by (fun t k => XS.dup X12.here hx rfl (hb hby own_d1_30) rfl rfl k) ?_
  show own_Go p.tables e below K (T12.setTop (mkF m 31 #[.val (.int (2 : Int32)), .val (.int a0), .val (.int a1), .val (.int a2)] [(.ref b12), (.ref b12)]))
  refine own_by (fun t k => XS.iconst X12.here hx rfl (hb hby own_d1_31) k) ?_
  show own_Go p.tables e below K (T12.setTop (mkF m 32 #[.val (.int (2 : Int32)), .val (.int a0), .val (.int a1), .val (.int a2)] [(.int (0 : Int32)), (.ref b12), (.ref b12)]))
  refine own_by (fun t k => XS.iloadN X12.here hx rfl (hb hby own_d1_32) rfl k) ?_
  show own_Go p.tables e below K (T12.setTop (mkF m 33 #[.val (.int (2 : Int32)), .val (.int a0), .val (.int a1), .val (.int a2)] [(.int a0), (.int (0 : Int32)), (.ref b12), (.ref b12)]))
  refine own_by (fun t k => XS.i2dS X12.here hx rfl (hb hby own_d1_33) rfl (i2d_w _) k) ?_
  show own_Go p.tables e below K (T12.setTop (mkF m 34 #[.val (.int (2 : Int32)), .val (.int a0), .val (.int a1), .val (.int a2)] [(.double (FP.l2d a0.toInt64)), (.int (0 : Int32)), (.ref b12), (.ref b12)]))
  obtain ⟨cl13, Ar13, q13, S13, M13, H13, U13⟩ := id V12
  obtain ⟨T13, h13, X13, e13, W13, st13⟩ := stD X12 hx hZ e12 Ar13 (j := (0 : Int32)) (inb_of S13 ⟨by decide, by decide⟩) (g := (mkF m 34 #[.val (.int (2 : Int32)), .val (.int a0), .val (.int a1), .val (.int a2)] [(.double (FP.l2d a0.toInt64)), (.int (0 : Int32)), (.ref b12), (.ref b12)])) rfl rfl (hb hby own_d1_34)
  refine own_by st13 ?_
  have V13 : Arv Z h13 b12 k12 .double (2 : Int32) [(.double (FP.l2d a0.toInt64)), (.double (FP.l2d 0))] (.double (FP.l2d 0)) := Arv.set Ar13 q13 S13 M13 H13 U13 rfl W13 0 rfl (Nat.le_of_ble_eq_true rfl)
  have Z13 := Nat.le_trans Z12 (Keep.of_wr W13).1
  have K13 := K12.wr W13 (Or.inr sz_b12)
  have N13 := Fr.snoc X13 N0 gn_b12
  show own_Go p.tables e below K (T13.setTop (mkF m 35 #[.val (.int (2 : Int32)), .val (.int a0), .val (.int a1), .val (.int a2)] [(.ref b12)]))
  refine own_by (fun t k => XS.dup X13.here hx rfl (hb hby own_d1_35) rfl rfl k) ?_
  show own_Go p.tables e below K (T13.setTop (mkF m 36 #[.val (.int (2 : Int32)), .val (.int a0), .val (.int a1), .val (.int a2)] [(.ref b12), (.ref b12)]))
  refine own_by (fun t k => XS.iconst X13.here hx rfl (hb hby own_d1_36) k) ?_
  show own_Go p.tables e below K (T13.setTop (mkF m 37 #[.val (.int (2 : Int32)), .val (.int a0), .val (.int a1), .val (.int a2)] [(.int (1 : Int32)), (.ref b12), (.ref b12)]))
  refine own_by (fun t k => XS.iloadN X13.here hx rfl (hb hby own_d1_37) rfl k) ?_
  show own_Go p.tables e below K (T13.setTop (mkF m 38 #[.val (.int (2 : Int32)), .val (.int a0), .val (.int a1), .val (.int a2)] [(.int a1), (.int (1 : Int32)), (.ref b12), (.ref b12)]))
  refine own_by (fun t k => XS.i2dS X13.here hx rfl (hb hby own_d1_38) rfl (i2d_w _) k) ?_
  show own_Go p.tables e below K (T13.setTop (mkF m 39 #[.val (.int (2 : Int32)), .val (.int a0), .val (.int a1), .val (.int a2)] [(.double (FP.l2d a1.toInt64)), (.int (1 : Int32)), (.ref b12), (.ref b12)]))
  obtain ⟨cl14, Ar14, q14, S14, M14, H14, U14⟩ := id V13
  obtain ⟨T14, h14, X14, e14, W14, st14⟩ := stD X13 hx hZ e13 Ar14 (j := (1 : Int32)) (inb_of S14 ⟨by decide, by decide⟩) (g := (mkF m 39 #[.val (.int (2 : Int32)), .val (.int a0), .val (.int a1), .val (.int a2)] [(.double (FP.l2d a1.toInt64)), (.int (1 : Int32)), (.ref b12), (.ref b12)])) rfl rfl (hb hby own_d1_39)
  refine own_by st14 ?_
  have V14 : Arv Z h14 b12 k12 .double (2 : Int32) [(.double (FP.l2d a0.toInt64)), (.double (FP.l2d a1.toInt64))] (.double (FP.l2d 0)) := Arv.set Ar14 q14 S14 M14 H14 U14 rfl W14 1 rfl (Nat.le_of_ble_eq_true rfl)
  have Z14 := Nat.le_trans Z13 (Keep.of_wr W14).1
  have K14 := K13.wr W14 (Or.inr sz_b12)
  have N14 := Fr.snoc X14 N13 gn_b12
  show own_Go p.tables e below K (T14.setTop (mkF m 40 #[.val (.int (2 : Int32)), .val (.int a0), .val (.int a1), .val (.int a2)] [(.ref b12)]))
  exact own_retA X14 hx hret rfl rfl rfl (hb hby own_d1_40) (hK (some (.ref b12)) X14 (fun h => by rw [hret] at h; cases h) (by rw [e14]; exact ⟨_, _, rfl, N14, K14, V14⟩) (by decide) (by decide))
theorem own_efdm2 (m : MethodId) (ra : Addr) (rb : Addr) : entryFrame m #[(.ref ra), (.ref rb)] 4 = mkF m 0 #[.val (.ref ra), .val (.ref rb), .unset, .unset] [] := by first | (simp [entryFrame, mkF, argsToLocals, Value.category]; done) | rfl
def own_Qdm2 (Z : State) (ra : Addr) (rb : Addr) (ka : ClassId) (kb : ClassId) (a0 : Int32) (a1 : Int32) (b0 : Int32) (b1 : Int32) (h0 : Heap) (n0 : Nat) (v : Option Value) (h : Heap) (L : List Loc) : Prop := v = some (.int (own_dom2 a0 a1 b0 b1)) ∧ Fr n0 L ∧ h = h0
set_option maxRecDepth 65536 in
set_option maxHeartbeats 40000000 in
theorem own_rmdm2 (l : Launch) (Z : State) (aw : Array Value) (hw : ∀ d ∈ tables_1, d.before aw Z = true) (ws : List Jvm.Cond) (ra : Addr) (rb : Addr) (ka : ClassId) (kb : ClassId) (a0 : Int32) (a1 : Int32) (b0 : Int32) (b1 : Int32) (h0 : Heap) (n0 : Nat) (Z0 : n0 ≤ h0.size) (VA : Arv Z h0 ra ka .double (2 : Int32) [(.double (FP.l2d a0.toInt64)), (.double (FP.l2d a1.toInt64))] (.double (FP.l2d 0))) (VB : Arv Z h0 rb kb .double (2 : Int32) [(.double (FP.l2d b0.toInt64)), (.double (FP.l2d b1.toInt64))] (.double (FP.l2d 0))) :
    MetFree l (⟨"com/example/manyfront/manyfront/sorting/NondominatedSorting", "dominates", "([D[D)Z"⟩ : MethodName) (head1 (Jvm.Cond.code (⟨"com/example/manyfront/manyfront/sorting/NondominatedSorting", "dominates", "([D[D)Z"⟩ : MethodName) prog_73_method_2_code 4 (some .boolean) :: ws) ({ frames := 0, cells := 0, slots := 0, locals := 0 } : Room)) (fun a U => a = #[(.ref ra), (.ref rb)] ∧ Z.Warmed39 U.vm ∧ U.heap = h0) (fun _ _ _ _ _ => True) (fun _ U o U' => ∃ v L, o = .returned v ∧ own_Qdm2 Z ra rb ka kb a0 a1 b0 b1 h0 n0 v U'.heap L ∧ FrameEnd U o U' L ({ frames := 0, cells := 0, slots := 0, locals := 0 } : Room).cells ({ frames := 0, cells := 0, slots := 0, locals := 0 } : Room).slots) := by
  refine own_met (Q := own_Qdm2 Z ra rb ka kb a0 a1 b0 b1 h0 n0) (plainFor_of_name own_pn2) ?_
  intro p e s m below meth c s₁ K hx hby hml hown hnm hret hZ X0 e0 hK
  have hown : s.vm.findClass "com/example/manyfront/manyfront/sorting/NondominatedSorting" = some m.cls := hown
  have N0 := Fr.nil n0
  refine own_by (fun t k => castTop (own_efdm2 m ra rb) k) ?_
  show own_Go p.tables e below K (s₁.setTop (mkF m 0 #[.val (.ref ra), .val (.ref rb), .unset, .unset] []))
  refine own_by (fun t k => XS.iconst X0.here hx rfl (hb hby own_d2_0) k) ?_
  show own_Go p.tables e below K (s₁.setTop (mkF m 1 #[.val (.ref ra), .val (.ref rb), .unset, .unset] [(.int (0 : Int32))]))
  refine own_by (fun t k => XS.istoreN X0.here hx rfl (hb hby own_d2_1) rfl (l' := #[.val (.ref ra), .val (.ref rb), .val (.int (0 : Int32)), .unset]) rfl k) ?_
  show own_Go p.tables e below K (s₁.setTop (mkF m 2 #[.val (.ref ra), .val (.ref rb), .val (.int (0 : Int32)), .unset] []))
  refine own_by (fun t k => XS.iconst X0.here hx rfl (hb hby own_d2_2) k) ?_
  show own_Go p.tables e below K (s₁.setTop (mkF m 3 #[.val (.ref ra), .val (.ref rb), .val (.int (0 : Int32)), .unset] [(.int (0 : Int32))]))
  refine own_by (fun t k => XS.istoreN X0.here hx rfl (hb hby own_d2_3) rfl (l' := #[.val (.ref ra), .val (.ref rb), .val (.int (0 : Int32)), .val (.int (0 : Int32))]) rfl k) ?_
  show own_Go p.tables e below K (s₁.setTop (mkF m 4 #[.val (.ref ra), .val (.ref rb), .val (.int (0 : Int32)), .val (.int (0 : Int32))] []))
  refine own_by (fun t k => XS.iloadN X0.here hx rfl (hb hby own_d2_4) rfl k) ?_
  show own_Go p.tables e below K (s₁.setTop (mkF m 5 #[.val (.ref ra), .val (.ref rb), .val (.int (0 : Int32)), .val (.int (0 : Int32))] [(.int (0 : Int32))]))
  refine own_by (fun t k => XS.aloadN X0.here hx rfl (hb hby own_d2_5) rfl rfl k) ?_
  show own_Go p.tables e below K (s₁.setTop (mkF m 6 #[.val (.ref ra), .val (.ref rb), .val (.int (0 : Int32)), .val (.int (0 : Int32))] [(.ref ra), (.int (0 : Int32))]))
  obtain ⟨cl15, Ar15, -, S15, M15, -, -⟩ := id VA
  refine own_by (fun t k => X0.arraylength hx (by rw [e0]; exact Ar15.1) (State.isArrayOf_alike hZ.alike Ar15.2.1) (g := (mkF m 6 #[.val (.ref ra), .val (.ref rb), .val (.int (0 : Int32)), .val (.int (0 : Int32))] [(.ref ra), (.int (0 : Int32))])) rfl rfl (hb hby own_d2_6) t k) ?_
  rw [len_of S15 M15]
  show own_Go p.tables e below K (s₁.setTop (mkF m 7 #[.val (.ref ra), .val (.ref rb), .val (.int (0 : Int32)), .val (.int (0 : Int32))] [(.int (2 : Int32)), (.int (0 : Int32))]))
  have hc7 : (0 : Int32) < (2 : Int32) := by decide
  refine own_by (fun t k => XS.icmpNo X0.here hx rfl (hb hby own_d2_7) rfl (tlt hc7).2.1 k) ?_
  show own_Go p.tables e below K (s₁.setTop (mkF m 10 #[.val (.ref ra), .val (.ref rb), .val (.int (0 : Int32)), .val (.int (0 : Int32))] []))
  refine own_by (fun t k => XS.aloadN X0.here hx rfl (hb hby own_d2_10) rfl rfl k) ?_
  show own_Go p.tables e below K (s₁.setTop (mkF m 11 #[.val (.ref ra), .val (.ref rb), .val (.int (0 : Int32)), .val (.int (0 : Int32))] [(.ref ra)]))
  refine own_by (fun t k => XS.iloadN X0.here hx rfl (hb hby own_d2_11) rfl k) ?_
  show own_Go p.tables e below K (s₁.setTop (mkF m 12 #[.val (.ref ra), .val (.ref rb), .val (.int (0 : Int32)), .val (.int (0 : Int32))] [(.int (0 : Int32)), (.ref ra)]))
  obtain ⟨cl16, Ar16, -, S16, M16, H16, -⟩ := id VA
  refine own_by (fun t k => X0.daload hx (j := (0 : Int32)) (v := (.double (FP.l2d a0.toInt64))) (by rw [e0]; exact Ar16.1) (State.isArrayOf_alike hZ.alike Ar16.2.1) Ar16.2.2 (inb_of S16 ⟨by decide, by decide⟩) (H16 0 (by rw [S16]; decide)) (g := (mkF m 12 #[.val (.ref ra), .val (.ref rb), .val (.int (0 : Int32)), .val (.int (0 : Int32))] [(.int (0 : Int32)), (.ref ra)])) rfl rfl (hb hby own_d2_12) t k) ?_
  show own_Go p.tables e below K (s₁.setTop (mkF m 13 #[.val (.ref ra), .val (.ref rb), .val (.int (0 : Int32)), .val (.int (0 : Int32))] [(.double (FP.l2d a0.toInt64))]))
  refine own_by (fun t k => XS.aloadN X0.here hx rfl (hb hby own_d2_13) rfl rfl k) ?_
  show own_Go p.tables e below K (s₁.setTop (mkF m 14 #[.val (.ref ra), .val (.ref rb), .val (.int (0 : Int32)), .val (.int (0 : Int32))] [(.ref rb), (.double (FP.l2d a0.toInt64))]))
  refine own_by (fun t k => XS.iloadN X0.here hx rfl (hb hby own_d2_14) rfl k) ?_
  show own_Go p.tables e below K (s₁.setTop (mkF m 15 #[.val (.ref ra), .val (.ref rb), .val (.int (0 : Int32)), .val (.int (0 : Int32))] [(.int (0 : Int32)), (.ref rb), (.double (FP.l2d a0.toInt64))]))
  obtain ⟨cl17, Ar17, -, S17, M17, H17, -⟩ := id VB
  refine own_by (fun t k => X0.daload hx (j := (0 : Int32)) (v := (.double (FP.l2d b0.toInt64))) (by rw [e0]; exact Ar17.1) (State.isArrayOf_alike hZ.alike Ar17.2.1) Ar17.2.2 (inb_of S17 ⟨by decide, by decide⟩) (H17 0 (by rw [S17]; decide)) (g := (mkF m 15 #[.val (.ref ra), .val (.ref rb), .val (.int (0 : Int32)), .val (.int (0 : Int32))] [(.int (0 : Int32)), (.ref rb), (.double (FP.l2d a0.toInt64))])) rfl rfl (hb hby own_d2_15) t k) ?_
  show own_Go p.tables e below K (s₁.setTop (mkF m 16 #[.val (.ref ra), .val (.ref rb), .val (.int (0 : Int32)), .val (.int (0 : Int32))] [(.double (FP.l2d b0.toInt64)), (.double (FP.l2d a0.toInt64))]))
  refine own_by (fun t k => XS.dcmpS X0.here hx rfl (hb hby own_d2_16) rfl (dcmpV_w (own_b53 _) (own_b53 _) _) k) ?_
  show own_Go p.tables e below K (s₁.setTop (mkF m 17 #[.val (.ref ra), .val (.ref rb), .val (.int (0 : Int32)), .val (.int (0 : Int32))] [(.int (lcmpW a0.toInt64 b0.toInt64))]))
  by_cases hc17 : b0.toInt64 < a0.toInt64
  · refine own_by (fun t k => XS.ifNo X0.here hx rfl (hb hby own_d2_17) rfl (own_lgt hc17).2 k) ?_
    show own_Go p.tables e below K (s₁.setTop (mkF m 20 #[.val (.ref ra), .val (.ref rb), .val (.int (0 : Int32)), .val (.int (0 : Int32))] []))
    refine own_by (fun t k => XS.iconst X0.here hx rfl (hb hby own_d2_20) k) ?_
    show own_Go p.tables e below K (s₁.setTop (mkF m 21 #[.val (.ref ra), .val (.ref rb), .val (.int (0 : Int32)), .val (.int (0 : Int32))] [(.int (0 : Int32))]))
    exact own_retZ X0 hx (t := .boolean) hret (by simp) (hb hby own_d2_21) (hK (some (.int (0 : Int32))) X0 (fun h => by rw [hret] at h; cases h) ⟨by simp_all [own_dom2, own_i64], N0, e0⟩ (by decide) (by decide))
  · refine own_by (fun t k => XS.ifYes X0.here hx rfl (pc0 := 17) (pc' := 22) rfl (hb hby own_d2_17) rfl (own_lle hc17).2 (by decide) (by decide) k) ?_
    show own_Go p.tables e below K (s₁.setTop (mkF m 22 #[.val (.ref ra), .val (.ref rb), .val (.int (0 : Int32)), .val (.int (0 : Int32))] []))
    refine own_by (fun t k => XS.iloadN X0.here hx rfl (hb hby own_d2_22) rfl k) ?_
    show own_Go p.tables e below K (s₁.setTop (mkF m 23 #[.val (.ref ra), .val (.ref rb), .val (.int (0 : Int32)), .val (.int (0 : Int32))] [(.int (0 : Int32))]))
    refine own_by (fun t k => XS.aloadN X0.here hx rfl (hb hby own_d2_23) rfl rfl k) ?_
    show own_Go p.tables e below K (s₁.setTop (mkF m 24 #[.val (.ref ra), .val (.ref rb), .val (.int (0 : Int32)), .val (.int (0 : Int32))] [(.ref ra), (.int (0 : Int32))]))
    refine own_by (fun t k => XS.iloadN X0.here hx rfl (hb hby own_d2_24) rfl k) ?_
    show own_Go p.tables e below K (s₁.setTop (mkF m 25 #[.val (.ref ra), .val (.ref rb), .val (.int (0 : Int32)), .val (.int (0 : Int32))] [(.int (0 : Int32)), (.ref ra), (.int (0 : Int32))]))
    obtain ⟨cl18, Ar18, -, S18, M18, H18, -⟩ := id VA
    refine own_by (fun t k => X0.daload hx (j := (0 : Int32)) (v := (.double (FP.l2d a0.toInt64))) (by rw [e0]; exact Ar18.1) (State.isArrayOf_alike hZ.alike Ar18.2.1) Ar18.2.2 (inb_of S18 ⟨by decide, by decide⟩) (H18 0 (by rw [S18]; decide)) (g := (mkF m 25 #[.val (.ref ra), .val (.ref rb), .val (.int (0 : Int32)), .val (.int (0 : Int32))] [(.int (0 : Int32)), (.ref ra), (.int (0 : Int32))])) rfl rfl (hb hby own_d2_25) t k) ?_
    show own_Go p.tables e below K (s₁.setTop (mkF m 26 #[.val (.ref ra), .val (.ref rb), .val (.int (0 : Int32)), .val (.int (0 : Int32))] [(.double (FP.l2d a0.toInt64)), (.int (0 : Int32))]))
    refine own_by (fun t k => XS.aloadN X0.here hx rfl (hb hby own_d2_26) rfl rfl k) ?_
    show own_Go p.tables e below K (s₁.setTop (mkF m 27 #[.val (.ref ra), .val (.ref rb), .val (.int (0 : Int32)), .val (.int (0 : Int32))] [(.ref rb), (.double (FP.l2d a0.toInt64)), (.int (0 : Int32))]))
    refine own_by (fun t k => XS.iloadN X0.here hx rfl (hb hby own_d2_27) rfl k) ?_
    show own_Go p.tables e below K (s₁.setTop (mkF m 28 #[.val (.ref ra), .val (.ref rb), .val (.int (0 : Int32)), .val (.int (0 : Int32))] [(.int (0 : Int32)), (.ref rb), (.double (FP.l2d a0.toInt64)), (.int (0 : Int32))]))
    obtain ⟨cl19, Ar19, -, S19, M19, H19, -⟩ := id VB
    refine own_by (fun t k => X0.daload hx (j := (0 : Int32)) (v := (.double (FP.l2d b0.toInt64))) (by rw [e0]; exact Ar19.1) (State.isArrayOf_alike hZ.alike Ar19.2.1) Ar19.2.2 (inb_of S19 ⟨by decide, by decide⟩) (H19 0 (by rw [S19]; decide)) (g := (mkF m 28 #[.val (.ref ra), .val (.ref rb), .val (.int (0 : Int32)), .val (.int (0 : Int32))] [(.int (0 : Int32)), (.ref rb), (.double (FP.l2d a0.toInt64)), (.int (0 : Int32))])) rfl rfl (hb hby own_d2_28) t k) ?_
    show own_Go p.tables e below K (s₁.setTop (mkF m 29 #[.val (.ref ra), .val (.ref rb), .val (.int (0 : Int32)), .val (.int (0 : Int32))] [(.double (FP.l2d b0.toInt64)), (.double (FP.l2d a0.toInt64)), (.int (0 : Int32))]))
    refine own_by (fun t k => XS.dcmpS X0.here hx rfl (hb hby own_d2_29) rfl (dcmpV_w (own_b53 _) (own_b53 _) _) k) ?_
    show own_Go p.tables e below K (s₁.setTop (mkF m 30 #[.val (.ref ra), .val (.ref rb), .val (.int (0 : Int32)), .val (.int (0 : Int32))] [(.int (lcmpW a0.toInt64 b0.toInt64)), (.int (0 : Int32))]))
    by_cases hc30 : a0.toInt64 < b0.toInt64
    · refine own_by (fun t k => XS.ifNo X0.here hx rfl (hb hby own_d2_30) rfl (own_llt hc30).2 k) ?_
      show own_Go p.tables e below K (s₁.setTop (mkF m 33 #[.val (.ref ra), .val (.ref rb), .val (.int (0 : Int32)), .val (.int (0 : Int32))] [(.int (0 : Int32))]))
      refine own_by (fun t k => XS.iconst X0.here hx rfl (hb hby own_d2_33) k) ?_
      show own_Go p.tables e below K (s₁.setTop (mkF m 34 #[.val (.ref ra), .val (.ref rb), .val (.int (0 : Int32)), .val (.int (0 : Int32))] [(.int (1 : Int32)), (.int (0 : Int32))]))
      refine own_by (fun t k => XS.goto X0.here hx rfl (pc0 := 34) (pc' := 38) rfl (hb hby own_d2_34) (by decide) (by decide) k) ?_
      show own_Go p.tables e below K (s₁.setTop (mkF m 38 #[.val (.ref ra), .val (.ref rb), .val (.int (0 : Int32)), .val (.int (0 : Int32))] [(.int (1 : Int32)), (.int (0 : Int32))]))
      refine own_by (fun t k => XS.ior X0.here hx rfl (hb hby own_d2_38) rfl k) ?_
      show own_Go p.tables e below K (s₁.setTop (mkF m 39 #[.val (.ref ra), .val (.ref rb), .val (.int (0 : Int32)), .val (.int (0 : Int32))] [(.int (1 : Int32))]))
      refine own_by (fun t k => XS.istoreN X0.here hx rfl (hb hby own_d2_39) rfl (l' := #[.val (.ref ra), .val (.ref rb), .val (.int (1 : Int32)), .val (.int (0 : Int32))]) rfl k) ?_
      show own_Go p.tables e below K (s₁.setTop (mkF m 40 #[.val (.ref ra), .val (.ref rb), .val (.int (1 : Int32)), .val (.int (0 : Int32))] []))
      refine own_by (fun t k => XS.iinc X0.here hx rfl (hb hby own_d2_40) rfl (l' := #[.val (.ref ra), .val (.ref rb), .val (.int (1 : Int32)), .val (.int (1 : Int32))]) rfl k) ?_
      show own_Go p.tables e below K (s₁.setTop (mkF m 43 #[.val (.ref ra), .val (.ref rb), .val (.int (1 : Int32)), .val (.int (1 : Int32))] []))
      refine own_by (fun t k => XS.goto X0.here hx rfl (pc0 := 43) (pc' := 4) rfl (hb hby own_d2_43) (by decide) (by decide) k) ?_
      show own_Go p.tables e below K (s₁.setTop (mkF m 4 #[.val (.ref ra), .val (.ref rb), .val (.int (1 : Int32)), .val (.int (1 : Int32))] []))
      refine own_by (fun t k => XS.iloadN X0.here hx rfl (hb hby own_d2_4) rfl k) ?_
      show own_Go p.tables e below K (s₁.setTop (mkF m 5 #[.val (.ref ra), .val (.ref rb), .val (.int (1 : Int32)), .val (.int (1 : Int32))] [(.int (1 : Int32))]))
      refine own_by (fun t k => XS.aloadN X0.here hx rfl (hb hby own_d2_5) rfl rfl k) ?_
      show own_Go p.tables e below K (s₁.setTop (mkF m 6 #[.val (.ref ra), .val (.ref rb), .val (.int (1 : Int32)), .val (.int (1 : Int32))] [(.ref ra), (.int (1 : Int32))]))
      obtain ⟨cl20, Ar20, -, S20, M20, -, -⟩ := id VA
      refine own_by (fun t k => X0.arraylength hx (by rw [e0]; exact Ar20.1) (State.isArrayOf_alike hZ.alike Ar20.2.1) (g := (mkF m 6 #[.val (.ref ra), .val (.ref rb), .val (.int (1 : Int32)), .val (.int (1 : Int32))] [(.ref ra), (.int (1 : Int32))])) rfl rfl (hb hby own_d2_6) t k) ?_
      rw [len_of S20 M20]
      show own_Go p.tables e below K (s₁.setTop (mkF m 7 #[.val (.ref ra), .val (.ref rb), .val (.int (1 : Int32)), .val (.int (1 : Int32))] [(.int (2 : Int32)), (.int (1 : Int32))]))
      have hc7 : (1 : Int32) < (2 : Int32) := by decide
      refine own_by (fun t k => XS.icmpNo X0.here hx rfl (hb hby own_d2_7) rfl (tlt hc7).2.1 k) ?_
      show own_Go p.tables e below K (s₁.setTop (mkF m 10 #[.val (.ref ra), .val (.ref rb), .val (.int (1 : Int32)), .val (.int (1 : Int32))] []))
      refine own_by (fun t k => XS.aloadN X0.here hx rfl (hb hby own_d2_10) rfl rfl k) ?_
      show own_Go p.tables e below K (s₁.setTop (mkF m 11 #[.val (.ref ra), .val (.ref rb), .val (.int (1 : Int32)), .val (.int (1 : Int32))] [(.ref ra)]))
      refine own_by (fun t k => XS.iloadN X0.here hx rfl (hb hby own_d2_11) rfl k) ?_
      show own_Go p.tables e below K (s₁.setTop (mkF m 12 #[.val (.ref ra), .val (.ref rb), .val (.int (1 : Int32)), .val (.int (1 : Int32))] [(.int (1 : Int32)), (.ref ra)]))
      obtain ⟨cl21, Ar21, -, S21, M21, H21, -⟩ := id VA
      refine own_by (fun t k => X0.daload hx (j := (1 : Int32)) (v := (.double (FP.l2d a1.toInt64))) (by rw [e0]; exact Ar21.1) (State.isArrayOf_alike hZ.alike Ar21.2.1) Ar21.2.2 (inb_of S21 ⟨by decide, by decide⟩) (H21 1 (by rw [S21]; decide)) (g := (mkF m 12 #[.val (.ref ra), .val (.ref rb), .val (.int (1 : Int32)), .val (.int (1 : Int32))] [(.int (1 : Int32)), (.ref ra)])) rfl rfl (hb hby own_d2_12) t k) ?_
      show own_Go p.tables e below K (s₁.setTop (mkF m 13 #[.val (.ref ra), .val (.ref rb), .val (.int (1 : Int32)), .val (.int (1 : Int32))] [(.double (FP.l2d a1.toInt64))]))
      refine own_by (fun t k => XS.aloadN X0.here hx rfl (hb hby own_d2_13) rfl rfl k) ?_
      show own_Go p.tables e below K (s₁.setTop (mkF m 14 #[.val (.ref ra), .val (.ref rb), .val (.int (1 : Int32)), .val (.int (1 : Int32))] [(.ref rb), (.double (FP.l2d a1.toInt64))]))
      refine own_by (fun t k => XS.iloadN X0.here hx rfl (hb hby own_d2_14) rfl k) ?_
      show own_Go p.tables e below K (s₁.setTop (mkF m 15 #[.val (.ref ra), .val (.ref rb), .val (.int (1 : Int32)), .val (.int (1 : Int32))] [(.int (1 : Int32)), (.ref rb), (.double (FP.l2d a1.toInt64))]))
      obtain ⟨cl22, Ar22, -, S22, M22, H22, -⟩ := id VB
      refine own_by (fun t k => X0.daload hx (j := (1 : Int32)) (v := (.double (FP.l2d b1.toInt64))) (by rw [e0]; exact Ar22.1) (State.isArrayOf_alike hZ.alike Ar22.2.1) Ar22.2.2 (inb_of S22 ⟨by decide, by decide⟩) (H22 1 (by rw [S22]; decide)) (g := (mkF m 15 #[.val (.ref ra), .val (.ref rb), .val (.int (1 : Int32)), .val (.int (1 : Int32))] [(.int (1 : Int32)), (.ref rb), (.double (FP.l2d a1.toInt64))])) rfl rfl (hb hby own_d2_15) t k) ?_
      show own_Go p.tables e below K (s₁.setTop (mkF m 16 #[.val (.ref ra), .val (.ref rb), .val (.int (1 : Int32)), .val (.int (1 : Int32))] [(.double (FP.l2d b1.toInt64)), (.double (FP.l2d a1.toInt64))]))
      refine own_by (fun t k => XS.dcmpS X0.here hx rfl (hb hby own_d2_16) rfl (dcmpV_w (own_b53 _) (own_b53 _) _) k) ?_
      show own_Go p.tables e below K (s₁.setTop (mkF m 17 #[.val (.ref ra), .val (.ref rb), .val (.int (1 : Int32)), .val (.int (1 : Int32))] [(.int (lcmpW a1.toInt64 b1.toInt64))]))
      by_cases hc17 : b1.toInt64 < a1.toInt64
      · refine own_by (fun t k => XS.ifNo X0.here hx rfl (hb hby own_d2_17) rfl (own_lgt hc17).2 k) ?_
        show own_Go p.tables e below K (s₁.setTop (mkF m 20 #[.val (.ref ra), .val (.ref rb), .val (.int (1 : Int32)), .val (.int (1 : Int32))] []))
        refine own_by (fun t k => XS.iconst X0.here hx rfl (hb hby own_d2_20) k) ?_
        show own_Go p.tables e below K (s₁.setTop (mkF m 21 #[.val (.ref ra), .val (.ref rb), .val (.int (1 : Int32)), .val (.int (1 : Int32))] [(.int (0 : Int32))]))
        exact own_retZ X0 hx (t := .boolean) hret (by simp) (hb hby own_d2_21) (hK (some (.int (0 : Int32))) X0 (fun h => by rw [hret] at h; cases h) ⟨by simp_all [own_dom2, own_i64], N0, e0⟩ (by decide) (by decide))
      · refine own_by (fun t k => XS.ifYes X0.here hx rfl (pc0 := 17) (pc' := 22) rfl (hb hby own_d2_17) rfl (own_lle hc17).2 (by decide) (by decide) k) ?_
        show own_Go p.tables e below K (s₁.setTop (mkF m 22 #[.val (.ref ra), .val (.ref rb), .val (.int (1 : Int32)), .val (.int (1 : Int32))] []))
        refine own_by (fun t k => XS.iloadN X0.here hx rfl (hb hby own_d2_22) rfl k) ?_
        show own_Go p.tables e below K (s₁.setTop (mkF m 23 #[.val (.ref ra), .val (.ref rb), .val (.int (1 : Int32)), .val (.int (1 : Int32))] [(.int (1 : Int32))]))
        refine own_by (fun t k => XS.aloadN X0.here hx rfl (hb hby own_d2_23) rfl rfl k) ?_
        show own_Go p.tables e below K (s₁.setTop (mkF m 24 #[.val (.ref ra), .val (.ref rb), .val (.int (1 : Int32)), .val (.int (1 : Int32))] [(.ref ra), (.int (1 : Int32))]))
        refine own_by (fun t k => XS.iloadN X0.here hx rfl (hb hby own_d2_24) rfl k) ?_
        show own_Go p.tables e below K (s₁.setTop (mkF m 25 #[.val (.ref ra), .val (.ref rb), .val (.int (1 : Int32)), .val (.int (1 : Int32))] [(.int (1 : Int32)), (.ref ra), (.int (1 : Int32))]))
        obtain ⟨cl23, Ar23, -, S23, M23, H23, -⟩ := id VA
        refine own_by (fun t k => X0.daload hx (j := (1 : Int32)) (v := (.double (FP.l2d a1.toInt64))) (by rw [e0]; exact Ar23.1) (State.isArrayOf_alike hZ.alike Ar23.2.1) Ar23.2.2 (inb_of S23 ⟨by decide, by decide⟩) (H23 1 (by rw [S23]; decide)) (g := (mkF m 25 #[.val (.ref ra), .val (.ref rb), .val (.int (1 : Int32)), .val (.int (1 : Int32))] [(.int (1 : Int32)), (.ref ra), (.int (1 : Int32))])) rfl rfl (hb hby own_d2_25) t k) ?_
        show own_Go p.tables e below K (s₁.setTop (mkF m 26 #[.val (.ref ra), .val (.ref rb), .val (.int (1 : Int32)), .val (.int (1 : Int32))] [(.double (FP.l2d a1.toInt64)), (.int (1 : Int32))]))
        refine own_by (fun t k => XS.aloadN X0.here hx rfl (hb hby own_d2_26) rfl rfl k) ?_
        show own_Go p.tables e below K (s₁.setTop (mkF m 27 #[.val (.ref ra), .val (.ref rb), .val (.int (1 : Int32)), .val (.int (1 : Int32))] [(.ref rb), (.double (FP.l2d a1.toInt64)), (.int (1 : Int32))]))
        refine own_by (fun t k => XS.iloadN X0.here hx rfl (hb hby own_d2_27) rfl k) ?_
        show own_Go p.tables e below K (s₁.setTop (mkF m 28 #[.val (.ref ra), .val (.ref rb), .val (.int (1 : Int32)), .val (.int (1 : Int32))] [(.int (1 : Int32)), (.ref rb), (.double (FP.l2d a1.toInt64)), (.int (1 : Int32))]))
        obtain ⟨cl24, Ar24, -, S24, M24, H24, -⟩ := id VB
        refine own_by (fun t k => X0.daload hx (j := (1 : Int32)) (v := (.double (FP.l2d b1.toInt64))) (by rw [e0]; exact Ar24.1) (State.isArrayOf_alike hZ.alike Ar24.2.1) Ar24.2.2 (inb_of S24 ⟨by decide, by decide⟩) (H24 1 (by rw [S24]; decide)) (g := (mkF m 28 #[.val (.ref ra), .val (.ref rb), .val (.int (1 : Int32)), .val (.int (1 : Int32))] [(.int (1 : Int32)), (.ref rb), (.double (FP.l2d a1.toInt64)), (.int (1 : Int32))])) rfl rfl (hb hby own_d2_28) t k) ?_
        show own_Go p.tables e below K (s₁.setTop (mkF m 29 #[.val (.ref ra), .val (.ref rb), .val (.int (1 : Int32)), .val (.int (1 : Int32))] [(.double (FP.l2d b1.toInt64)), (.double (FP.l2d a1.toInt64)), (.int (1 : Int32))]))
        refine own_by (fun t k => XS.dcmpS X0.here hx rfl (hb hby own_d2_29) rfl (dcmpV_w (own_b53 _) (own_b53 _) _) k) ?_
        show own_Go p.tables e below K (s₁.setTop (mkF m 30 #[.val (.ref ra), .val (.ref rb), .val (.int (1 : Int32)), .val (.int (1 : Int32))] [(.int (lcmpW a1.toInt64 b1.toInt64)), (.int (1 : Int32))]))
        by_cases hc30 : a1.toInt64 < b1.toInt64
        · refine own_by (fun t k => XS.ifNo X0.here hx rfl (hb hby own_d2_30) rfl (own_llt hc30).2 k) ?_
          show own_Go p.tables e below K (s₁.setTop (mkF m 33 #[.val (.ref ra), .val (.ref rb), .val (.int (1 : Int32)), .val (.int (1 : Int32))] [(.int (1 : Int32))]))
          refine own_by (fun t k => XS.iconst X0.here hx rfl (hb hby own_d2_33) k) ?_
          show own_Go p.tables e below K (s₁.setTop (mkF m 34 #[.val (.ref ra), .val (.ref rb), .val (.int (1 : Int32)), .val (.int (1 : Int32))] [(.int (1 : Int32)), (.int (1 : Int32))]))
          refine own_by (fun t k => XS.goto X0.here hx rfl (pc0 := 34) (pc' := 38) rfl (hb hby own_d2_34) (by decide) (by decide) k) ?_
          show own_Go p.tables e below K (s₁.setTop (mkF m 38 #[.val (.ref ra), .val (.ref rb), .val (.int (1 : Int32)), .val (.int (1 : Int32))] [(.int (1 : Int32)), (.int (1 : Int32))]))
          refine own_by (fun t k => XS.ior X0.here hx rfl (hb hby own_d2_38) rfl k) ?_
          show own_Go p.tables e below K (s₁.setTop (mkF m 39 #[.val (.ref ra), .val (.ref rb), .val (.int (1 : Int32)), .val (.int (1 : Int32))] [(.int (1 : Int32))]))
          refine own_by (fun t k => XS.istoreN X0.here hx rfl (hb hby own_d2_39) rfl (l' := #[.val (.ref ra), .val (.ref rb), .val (.int (1 : Int32)), .val (.int (1 : Int32))]) rfl k) ?_
          show own_Go p.tables e below K (s₁.setTop (mkF m 40 #[.val (.ref ra), .val (.ref rb), .val (.int (1 : Int32)), .val (.int (1 : Int32))] []))
          refine own_by (fun t k => XS.iinc X0.here hx rfl (hb hby own_d2_40) rfl (l' := #[.val (.ref ra), .val (.ref rb), .val (.int (1 : Int32)), .val (.int (2 : Int32))]) rfl k) ?_
          show own_Go p.tables e below K (s₁.setTop (mkF m 43 #[.val (.ref ra), .val (.ref rb), .val (.int (1 : Int32)), .val (.int (2 : Int32))] []))
          refine own_by (fun t k => XS.goto X0.here hx rfl (pc0 := 43) (pc' := 4) rfl (hb hby own_d2_43) (by decide) (by decide) k) ?_
          show own_Go p.tables e below K (s₁.setTop (mkF m 4 #[.val (.ref ra), .val (.ref rb), .val (.int (1 : Int32)), .val (.int (2 : Int32))] []))
          refine own_by (fun t k => XS.iloadN X0.here hx rfl (hb hby own_d2_4) rfl k) ?_
          show own_Go p.tables e below K (s₁.setTop (mkF m 5 #[.val (.ref ra), .val (.ref rb), .val (.int (1 : Int32)), .val (.int (2 : Int32))] [(.int (2 : Int32))]))
          refine own_by (fun t k => XS.aloadN X0.here hx rfl (hb hby own_d2_5) rfl rfl k) ?_
          show own_Go p.tables e below K (s₁.setTop (mkF m 6 #[.val (.ref ra), .val (.ref rb), .val (.int (1 : Int32)), .val (.int (2 : Int32))] [(.ref ra), (.int (2 : Int32))]))
          obtain ⟨cl25, Ar25, -, S25, M25, -, -⟩ := id VA
          refine own_by (fun t k => X0.arraylength hx (by rw [e0]; exact Ar25.1) (State.isArrayOf_alike hZ.alike Ar25.2.1) (g := (mkF m 6 #[.val (.ref ra), .val (.ref rb), .val (.int (1 : Int32)), .val (.int (2 : Int32))] [(.ref ra), (.int (2 : Int32))])) rfl rfl (hb hby own_d2_6) t k) ?_
          rw [len_of S25 M25]
          show own_Go p.tables e below K (s₁.setTop (mkF m 7 #[.val (.ref ra), .val (.ref rb), .val (.int (1 : Int32)), .val (.int (2 : Int32))] [(.int (2 : Int32)), (.int (2 : Int32))]))
          have hc7 : ¬ ((2 : Int32) < (2 : Int32)) := by decide
          refine own_by (fun t k => XS.icmpYes X0.here hx rfl (pc0 := 7) (pc' := 46) rfl (hb hby own_d2_7) rfl (flt hc7).2.1 (by decide) (by decide) k) ?_
          show own_Go p.tables e below K (s₁.setTop (mkF m 46 #[.val (.ref ra), .val (.ref rb), .val (.int (1 : Int32)), .val (.int (2 : Int32))] []))
          refine own_by (fun t k => XS.iloadN X0.here hx rfl (hb hby own_d2_46) rfl k) ?_
          show own_Go p.tables e below K (s₁.setTop (mkF m 47 #[.val (.ref ra), .val (.ref rb), .val (.int (1 : Int32)), .val (.int (2 : Int32))] [(.int (1 : Int32))]))
          exact own_retZ X0 hx (t := .boolean) hret (by simp) (hb hby own_d2_47) (hK (some (.int (1 : Int32))) X0 (fun h => by rw [hret] at h; cases h) ⟨by simp_all [own_dom2, own_i64], N0, e0⟩ (by decide) (by decide))
        · refine own_by (fun t k => XS.ifYes X0.here hx rfl (pc0 := 30) (pc' := 37) rfl (hb hby own_d2_30) rfl (own_lge hc30).2 (by decide) (by decide) k) ?_
          show own_Go p.tables e below K (s₁.setTop (mkF m 37 #[.val (.ref ra), .val (.ref rb), .val (.int (1 : Int32)), .val (.int (1 : Int32))] [(.int (1 : Int32))]))
          refine own_by (fun t k => XS.iconst X0.here hx rfl (hb hby own_d2_37) k) ?_
          show own_Go p.tables e below K (s₁.setTop (mkF m 38 #[.val (.ref ra), .val (.ref rb), .val (.int (1 : Int32)), .val (.int (1 : Int32))] [(.int (0 : Int32)), (.int (1 : Int32))]))
          refine own_by (fun t k => XS.ior X0.here hx rfl (hb hby own_d2_38) rfl k) ?_
          show own_Go p.tables e below K (s₁.setTop (mkF m 39 #[.val (.ref ra), .val (.ref rb), .val (.int (1 : Int32)), .val (.int (1 : Int32))] [(.int (1 : Int32))]))
          refine own_by (fun t k => XS.istoreN X0.here hx rfl (hb hby own_d2_39) rfl (l' := #[.val (.ref ra), .val (.ref rb), .val (.int (1 : Int32)), .val (.int (1 : Int32))]) rfl k) ?_
          show own_Go p.tables e below K (s₁.setTop (mkF m 40 #[.val (.ref ra), .val (.ref rb), .val (.int (1 : Int32)), .val (.int (1 : Int32))] []))
          refine own_by (fun t k => XS.iinc X0.here hx rfl (hb hby own_d2_40) rfl (l' := #[.val (.ref ra), .val (.ref rb), .val (.int (1 : Int32)), .val (.int (2 : Int32))]) rfl k) ?_
          show own_Go p.tables e below K (s₁.setTop (mkF m 43 #[.val (.ref ra), .val (.ref rb), .val (.int (1 : Int32)), .val (.int (2 : Int32))] []))
          refine own_by (fun t k => XS.goto X0.here hx rfl (pc0 := 43) (pc' := 4) rfl (hb hby own_d2_43) (by decide) (by decide) k) ?_
          show own_Go p.tables e below K (s₁.setTop (mkF m 4 #[.val (.ref ra), .val (.ref rb), .val (.int (1 : Int32)), .val (.int (2 : Int32))] []))
          refine own_by (fun t k => XS.iloadN X0.here hx rfl (hb hby own_d2_4) rfl k) ?_
          show own_Go p.tables e below K (s₁.setTop (mkF m 5 #[.val (.ref ra), .val (.ref rb), .val (.int (1 : Int32)), .val (.int (2 : Int32))] [(.int (2 : Int32))]))
          refine own_by (fun t k => XS.aloadN X0.here hx rfl (hb hby own_d2_5) rfl rfl k) ?_
          show own_Go p.tables e below K (s₁.setTop (mkF m 6 #[.val (.ref ra), .val (.ref rb), .val (.int (1 : Int32)), .val (.int (2 : Int32))] [(.ref ra), (.int (2 : Int32))]))
          obtain ⟨cl26, Ar26, -, S26, M26, -, -⟩ := id VA
          refine own_by (fun t k => X0.arraylength hx (by rw [e0]; exact Ar26.1) (State.isArrayOf_alike hZ.alike Ar26.2.1) (g := (mkF m 6 #[.val (.ref ra), .val (.ref rb), .val (.int (1 : Int32)), .val (.int (2 : Int32))] [(.ref ra), (.int (2 : Int32))])) rfl rfl (hb hby own_d2_6) t k) ?_
          rw [len_of S26 M26]
          show own_Go p.tables e below K (s₁.setTop (mkF m 7 #[.val (.ref ra), .val (.ref rb), .val (.int (1 : Int32)), .val (.int (2 : Int32))] [(.int (2 : Int32)), (.int (2 : Int32))]))
          have hc7 : ¬ ((2 : Int32) < (2 : Int32)) := by decide
          refine own_by (fun t k => XS.icmpYes X0.here hx rfl (pc0 := 7) (pc' := 46) rfl (hb hby own_d2_7) rfl (flt hc7).2.1 (by decide) (by decide) k) ?_
          show own_Go p.tables e below K (s₁.setTop (mkF m 46 #[.val (.ref ra), .val (.ref rb), .val (.int (1 : Int32)), .val (.int (2 : Int32))] []))
          refine own_by (fun t k => XS.iloadN X0.here hx rfl (hb hby own_d2_46) rfl k) ?_
          show own_Go p.tables e below K (s₁.setTop (mkF m 47 #[.val (.ref ra), .val (.ref rb), .val (.int (1 : Int32)), .val (.int (2 : Int32))] [(.int (1 : Int32))]))
          exact own_retZ X0 hx (t := .boolean) hret (by simp) (hb hby own_d2_47) (hK (some (.int (1 : Int32))) X0 (fun h => by rw [hret] at h; cases h) ⟨by simp_all [own_dom2, own_i64], N0, e0⟩ (by decide) (by decide))
    · refine own_by (fun t k => XS.ifYes X0.here hx rfl (pc0 := 30) (pc' := 37) rfl (hb hby own_d2_30) rfl (own_lge hc30).2 (by decide) (by decide) k) ?_
      show own_Go p.tables e below K (s₁.setTop (mkF m 37 #[.val (.ref ra), .val (.ref rb), .val (.int (0 : Int32)), .val (.int (0 : Int32))] [(.int (0 : Int32))]))
      refine own_by (fun t k => XS.iconst X0.here hx rfl (hb hby own_d2_37) k) ?_
      show own_Go p.tables e below K (s₁.setTop (mkF m 38 #[.val (.ref ra), .val (.ref rb), .val (.int (0 : Int32)), .val (.int (0 : Int32))] [(.int (0 : Int32)), (.int (0 : Int32))]))
      refine own_by (fun t k => XS.ior X0.here hx rfl (hb hby own_d2_38) rfl k) ?_
      show own_Go p.tables e below K (s₁.setTop (mkF m 39 #[.val (.ref ra), .val (.ref rb), .val (.int (0 : Int32)), .val (.int (0 : Int32))] [(.int (0 : Int32))]))
      refine own_by (fun t k => XS.istoreN X0.here hx rfl (hb hby own_d2_39) rfl (l' := #[.val (.ref ra), .val (.ref rb), .val (.int (0 : Int32)), .val (.int (0 : Int32))]) rfl k) ?_
      show own_Go p.tables e below K (s₁.setTop (mkF m 40 #[.val (.ref ra), .val (.ref rb), .val (.int (0 : Int32)), .val (.int (0 : Int32))] []))
      refine own_by (fun t k => XS.iinc X0.here hx rfl (hb hby own_d2_40) rfl (l' := #[.val (.ref ra), .val (.ref rb), .val (.int (0 : Int32)), .val (.int (1 : Int32))]) rfl k) ?_
      show own_Go p.tables e below K (s₁.setTop (mkF m 43 #[.val (.ref ra), .val (.ref rb), .val (.int (0 : Int32)), .val (.int (1 : Int32))] []))
      refine own_by (fun t k => XS.goto X0.here hx rfl (pc0 := 43) (pc' := 4) rfl (hb hby own_d2_43) (by decide) (by decide) k) ?_
      show own_Go p.tables e below K (s₁.setTop (mkF m 4 #[.val (.ref ra), .val (.ref rb), .val (.int (0 : Int32)), .val (.int (1 : Int32))] []))
      refine own_by (fun t k => XS.iloadN X0.here hx rfl (hb hby own_d2_4) rfl k) ?_
      show own_Go p.tables e below K (s₁.setTop (mkF m 5 #[.val (.ref ra), .val (.ref rb), .val (.int (0 : Int32)), .val (.int (1 : Int32))] [(.int (1 : Int32))]))
      refine own_by (fun t k => XS.aloadN X0.here hx rfl (hb hby own_d2_5) rfl rfl k) ?_
      show own_Go p.tables e below K (s₁.setTop (mkF m 6 #[.val (.ref ra), .val (.ref rb), .val (.int (0 : Int32)), .val (.int (1 : Int32))] [(.ref ra), (.int (1 : Int32))]))
      obtain ⟨cl27, Ar27, -, S27, M27, -, -⟩ := id VA
      refine own_by (fun t k => X0.arraylength hx (by rw [e0]; exact Ar27.1) (State.isArrayOf_alike hZ.alike Ar27.2.1) (g := (mkF m 6 #[.val (.ref ra), .val (.ref rb), .val (.int (0 : Int32)), .val (.int (1 : Int32))] [(.ref ra), (.int (1 : Int32))])) rfl rfl (hb hby own_d2_6) t k) ?_
      rw [len_of S27 M27]
      show own_Go p.tables e below K (s₁.setTop (mkF m 7 #[.val (.ref ra), .val (.ref rb), .val (.int (0 : Int32)), .val (.int (1 : Int32))] [(.int (2 : Int32)), (.int (1 : Int32))]))
      have hc7 : (1 : Int32) < (2 : Int32) := by decide
      refine own_by (fun t k => XS.icmpNo X0.here hx rfl (hb hby own_d2_7) rfl (tlt hc7).2.1 k) ?_
      show own_Go p.tables e below K (s₁.setTop (mkF m 10 #[.val (.ref ra), .val (.ref rb), .val (.int (0 : Int32)), .val (.int (1 : Int32))] []))
      refine own_by (fun t k => XS.aloadN X0.here hx rfl (hb hby own_d2_10) rfl rfl k) ?_
      show own_Go p.tables e below K (s₁.setTop (mkF m 11 #[.val (.ref ra), .val (.ref rb), .val (.int (0 : Int32)), .val (.int (1 : Int32))] [(.ref ra)]))
      refine own_by (fun t k => XS.iloadN X0.here hx rfl (hb hby own_d2_11) rfl k) ?_
      show own_Go p.tables e below K (s₁.setTop (mkF m 12 #[.val (.ref ra), .val (.ref rb), .val (.int (0 : Int32)), .val (.int (1 : Int32))] [(.int (1 : Int32)), (.ref ra)]))
      obtain ⟨cl28, Ar28, -, S28, M28, H28, -⟩ := id VA
      refine own_by (fun t k => X0.daload hx (j := (1 : Int32)) (v := (.double (FP.l2d a1.toInt64))) (by rw [e0]; exact Ar28.1) (State.isArrayOf_alike hZ.alike Ar28.2.1) Ar28.2.2 (inb_of S28 ⟨by decide, by decide⟩) (H28 1 (by rw [S28]; decide)) (g := (mkF m 12 #[.val (.ref ra), .val (.ref rb), .val (.int (0 : Int32)), .val (.int (1 : Int32))] [(.int (1 : Int32)), (.ref ra)])) rfl rfl (hb hby own_d2_12) t k) ?_
      show own_Go p.tables e below K (s₁.setTop (mkF m 13 #[.val (.ref ra), .val (.ref rb), .val (.int (0 : Int32)), .val (.int (1 : Int32))] [(.double (FP.l2d a1.toInt64))]))
      refine own_by (fun t k => XS.aloadN X0.here hx rfl (hb hby own_d2_13) rfl rfl k) ?_
      show own_Go p.tables e below K (s₁.setTop (mkF m 14 #[.val (.ref ra), .val (.ref rb), .val (.int (0 : Int32)), .val (.int (1 : Int32))] [(.ref rb), (.double (FP.l2d a1.toInt64))]))
      refine own_by (fun t k => XS.iloadN X0.here hx rfl (hb hby own_d2_14) rfl k) ?_
      show own_Go p.tables e below K (s₁.setTop (mkF m 15 #[.val (.ref ra), .val (.ref rb), .val (.int (0 : Int32)), .val (.int (1 : Int32))] [(.int (1 : Int32)), (.ref rb), (.double (FP.l2d a1.toInt64))]))
      obtain ⟨cl29, Ar29, -, S29, M29, H29, -⟩ := id VB
      refine own_by (fun t k => X0.daload hx (j := (1 : Int32)) (v := (.double (FP.l2d b1.toInt64))) (by rw [e0]; exact Ar29.1) (State.isArrayOf_alike hZ.alike Ar29.2.1) Ar29.2.2 (inb_of S29 ⟨by decide, by decide⟩) (H29 1 (by rw [S29]; decide)) (g := (mkF m 15 #[.val (.ref ra), .val (.ref rb), .val (.int (0 : Int32)), .val (.int (1 : Int32))] [(.int (1 : Int32)), (.ref rb), (.double (FP.l2d a1.toInt64))])) rfl rfl (hb hby own_d2_15) t k) ?_
      show own_Go p.tables e below K (s₁.setTop (mkF m 16 #[.val (.ref ra), .val (.ref rb), .val (.int (0 : Int32)), .val (.int (1 : Int32))] [(.double (FP.l2d b1.toInt64)), (.double (FP.l2d a1.toInt64))]))
      refine own_by (fun t k => XS.dcmpS X0.here hx rfl (hb hby own_d2_16) rfl (dcmpV_w (own_b53 _) (own_b53 _) _) k) ?_
      show own_Go p.tables e below K (s₁.setTop (mkF m 17 #[.val (.ref ra), .val (.ref rb), .val (.int (0 : Int32)), .val (.int (1 : Int32))] [(.int (lcmpW a1.toInt64 b1.toInt64))]))
      by_cases hc17 : b1.toInt64 < a1.toInt64
      · refine own_by (fun t k => XS.ifNo X0.here hx rfl (hb hby own_d2_17) rfl (own_lgt hc17).2 k) ?_
        show own_Go p.tables e below K (s₁.setTop (mkF m 20 #[.val (.ref ra), .val (.ref rb), .val (.int (0 : Int32)), .val (.int (1 : Int32))] []))
        refine own_by (fun t k => XS.iconst X0.here hx rfl (hb hby own_d2_20) k) ?_
        show own_Go p.tables e below K (s₁.setTop (mkF m 21 #[.val (.ref ra), .val (.ref rb), .val (.int (0 : Int32)), .val (.int (1 : Int32))] [(.int (0 : Int32))]))
        exact own_retZ X0 hx (t := .boolean) hret (by simp) (hb hby own_d2_21) (hK (some (.int (0 : Int32))) X0 (fun h => by rw [hret] at h; cases h) ⟨by simp_all [own_dom2, own_i64], N0, e0⟩ (by decide) (by decide))
      · refine own_by (fun t k => XS.ifYes X0.here hx rfl (pc0 := 17) (pc' := 22) rfl (hb hby own_d2_17) rfl (own_lle hc17).2 (by decide) (by decide) k) ?_
        show own_Go p.tables e below K (s₁.setTop (mkF m 22 #[.val (.ref ra), .val (.ref rb), .val (.int (0 : Int32)), .val (.int (1 : Int32))] []))
        refine own_by (fun t k => XS.iloadN X0.here hx rfl (hb hby own_d2_22) rfl k) ?_
        show own_Go p.tables e below K (s₁.setTop (mkF m 23 #[.val (.ref ra), .val (.ref rb), .val (.int (0 : Int32)), .val (.int (1 : Int32))] [(.int (0 : Int32))]))
        refine own_by (fun t k => XS.aloadN X0.here hx rfl (hb hby own_d2_23) rfl rfl k) ?_
        show own_Go p.tables e below K (s₁.setTop (mkF m 24 #[.val (.ref ra), .val (.ref rb), .val (.int (0 : Int32)), .val (.int (1 : Int32))] [(.ref ra), (.int (0 : Int32))]))
        refine own_by (fun t k => XS.iloadN X0.here hx rfl (hb hby own_d2_24) rfl k) ?_
        show own_Go p.tables e below K (s₁.setTop (mkF m 25 #[.val (.ref ra), .val (.ref rb), .val (.int (0 : Int32)), .val (.int (1 : Int32))] [(.int (1 : Int32)), (.ref ra), (.int (0 : Int32))]))
        obtain ⟨cl30, Ar30, -, S30, M30, H30, -⟩ := id VA
        refine own_by (fun t k => X0.daload hx (j := (1 : Int32)) (v := (.double (FP.l2d a1.toInt64))) (by rw [e0]; exact Ar30.1) (State.isArrayOf_alike hZ.alike Ar30.2.1) Ar30.2.2 (inb_of S30 ⟨by decide, by decide⟩) (H30 1 (by rw [S30]; decide)) (g := (mkF m 25 #[.val (.ref ra), .val (.ref rb), .val (.int (0 : Int32)), .val (.int (1 : Int32))] [(.int (1 : Int32)), (.ref ra), (.int (0 : Int32))])) rfl rfl (hb hby own_d2_25) t k) ?_
        show own_Go p.tables e below K (s₁.setTop (mkF m 26 #[.val (.ref ra), .val (.ref rb), .val (.int (0 : Int32)), .val (.int (1 : Int32))] [(.double (FP.l2d a1.toInt64)), (.int (0 : Int32))]))
        refine own_by (fun t k => XS.aloadN X0.here hx rfl (hb hby own_d2_26) rfl rfl k) ?_
        show own_Go p.tables e below K (s₁.setTop (mkF m 27 #[.val (.ref ra), .val (.ref rb), .val (.int (0 : Int32)), .val (.int (1 : Int32))] [(.ref rb), (.double (FP.l2d a1.toInt64)), (.int (0 : Int32))]))
        refine own_by (fun t k => XS.iloadN X0.here hx rfl (hb hby own_d2_27) rfl k) ?_
        show own_Go p.tables e below K (s₁.setTop (mkF m 28 #[.val (.ref ra), .val (.ref rb), .val (.int (0 : Int32)), .val (.int (1 : Int32))] [(.int (1 : Int32)), (.ref rb), (.double (FP.l2d a1.toInt64)), (.int (0 : Int32))]))
        obtain ⟨cl31, Ar31, -, S31, M31, H31, -⟩ := id VB
        refine own_by (fun t k => X0.daload hx (j := (1 : Int32)) (v := (.double (FP.l2d b1.toInt64))) (by rw [e0]; exact Ar31.1) (State.isArrayOf_alike hZ.alike Ar31.2.1) Ar31.2.2 (inb_of S31 ⟨by decide, by decide⟩) (H31 1 (by rw [S31]; decide)) (g := (mkF m 28 #[.val (.ref ra), .val (.ref rb), .val (.int (0 : Int32)), .val (.int (1 : Int32))] [(.int (1 : Int32)), (.ref rb), (.double (FP.l2d a1.toInt64)), (.int (0 : Int32))])) rfl rfl (hb hby own_d2_28) t k) ?_
        show own_Go p.tables e below K (s₁.setTop (mkF m 29 #[.val (.ref ra), .val (.ref rb), .val (.int (0 : Int32)), .val (.int (1 : Int32))] [(.double (FP.l2d b1.toInt64)), (.double (FP.l2d a1.toInt64)), (.int (0 : Int32))]))
        refine own_by (fun t k => XS.dcmpS X0.here hx rfl (hb hby own_d2_29) rfl (dcmpV_w (own_b53 _) (own_b53 _) _) k) ?_
        show own_Go p.tables e below K (s₁.setTop (mkF m 30 #[.val (.ref ra), .val (.ref rb), .val (.int (0 : Int32)), .val (.int (1 : Int32))] [(.int (lcmpW a1.toInt64 b1.toInt64)), (.int (0 : Int32))]))
        by_cases hc30 : a1.toInt64 < b1.toInt64
        · refine own_by (fun t k => XS.ifNo X0.here hx rfl (hb hby own_d2_30) rfl (own_llt hc30).2 k) ?_
          show own_Go p.tables e below K (s₁.setTop (mkF m 33 #[.val (.ref ra), .val (.ref rb), .val (.int (0 : Int32)), .val (.int (1 : Int32))] [(.int (0 : Int32))]))
          refine own_by (fun t k => XS.iconst X0.here hx rfl (hb hby own_d2_33) k) ?_
          show own_Go p.tables e below K (s₁.setTop (mkF m 34 #[.val (.ref ra), .val (.ref rb), .val (.int (0 : Int32)), .val (.int (1 : Int32))] [(.int (1 : Int32)), (.int (0 : Int32))]))
          refine own_by (fun t k => XS.goto X0.here hx rfl (pc0 := 34) (pc' := 38) rfl (hb hby own_d2_34) (by decide) (by decide) k) ?_
          show own_Go p.tables e below K (s₁.setTop (mkF m 38 #[.val (.ref ra), .val (.ref rb), .val (.int (0 : Int32)), .val (.int (1 : Int32))] [(.int (1 : Int32)), (.int (0 : Int32))]))
          refine own_by (fun t k => XS.ior X0.here hx rfl (hb hby own_d2_38) rfl k) ?_
          show own_Go p.tables e below K (s₁.setTop (mkF m 39 #[.val (.ref ra), .val (.ref rb), .val (.int (0 : Int32)), .val (.int (1 : Int32))] [(.int (1 : Int32))]))
          refine own_by (fun t k => XS.istoreN X0.here hx rfl (hb hby own_d2_39) rfl (l' := #[.val (.ref ra), .val (.ref rb), .val (.int (1 : Int32)), .val (.int (1 : Int32))]) rfl k) ?_
          show own_Go p.tables e below K (s₁.setTop (mkF m 40 #[.val (.ref ra), .val (.ref rb), .val (.int (1 : Int32)), .val (.int (1 : Int32))] []))
          refine own_by (fun t k => XS.iinc X0.here hx rfl (hb hby own_d2_40) rfl (l' := #[.val (.ref ra), .val (.ref rb), .val (.int (1 : Int32)), .val (.int (2 : Int32))]) rfl k) ?_
          show own_Go p.tables e below K (s₁.setTop (mkF m 43 #[.val (.ref ra), .val (.ref rb), .val (.int (1 : Int32)), .val (.int (2 : Int32))] []))
          refine own_by (fun t k => XS.goto X0.here hx rfl (pc0 := 43) (pc' := 4) rfl (hb hby own_d2_43) (by decide) (by decide) k) ?_
          show own_Go p.tables e below K (s₁.setTop (mkF m 4 #[.val (.ref ra), .val (.ref rb), .val (.int (1 : Int32)), .val (.int (2 : Int32))] []))
          refine own_by (fun t k => XS.iloadN X0.here hx rfl (hb hby own_d2_4) rfl k) ?_
          show own_Go p.tables e below K (s₁.setTop (mkF m 5 #[.val (.ref ra), .val (.ref rb), .val (.int (1 : Int32)), .val (.int (2 : Int32))] [(.int (2 : Int32))]))
          refine own_by (fun t k => XS.aloadN X0.here hx rfl (hb hby own_d2_5) rfl rfl k) ?_
          show own_Go p.tables e below K (s₁.setTop (mkF m 6 #[.val (.ref ra), .val (.ref rb), .val (.int (1 : Int32)), .val (.int (2 : Int32))] [(.ref ra), (.int (2 : Int32))]))
          obtain ⟨cl32, Ar32, -, S32, M32, -, -⟩ := id VA
          refine own_by (fun t k => X0.arraylength hx (by rw [e0]; exact Ar32.1) (State.isArrayOf_alike hZ.alike Ar32.2.1) (g := (mkF m 6 #[.val (.ref ra), .val (.ref rb), .val (.int (1 : Int32)), .val (.int (2 : Int32))] [(.ref ra), (.int (2 : Int32))])) rfl rfl (hb hby own_d2_6) t k) ?_
          rw [len_of S32 M32]
          show own_Go p.tables e below K (s₁.setTop (mkF m 7 #[.val (.ref ra), .val (.ref rb), .val (.int (1 : Int32)), .val (.int (2 : Int32))] [(.int (2 : Int32)), (.int (2 : Int32))]))
          have hc7 : ¬ ((2 : Int32) < (2 : Int32)) := by decide
          refine own_by (fun t k => XS.icmpYes X0.here hx rfl (pc0 := 7) (pc' := 46) rfl (hb hby own_d2_7) rfl (flt hc7).2.1 (by decide) (by decide) k) ?_
          show own_Go p.tables e below K (s₁.setTop (mkF m 46 #[.val (.ref ra), .val (.ref rb), .val (.int (1 : Int32)), .val (.int (2 : Int32))] []))
          refine own_by (fun t k => XS.iloadN X0.here hx rfl (hb hby own_d2_46) rfl k) ?_
          show own_Go p.tables e below K (s₁.setTop (mkF m 47 #[.val (.ref ra), .val (.ref rb), .val (.int (1 : Int32)), .val (.int (2 : Int32))] [(.int (1 : Int32))]))
          exact own_retZ X0 hx (t := .boolean) hret (by simp) (hb hby own_d2_47) (hK (some (.int (1 : Int32))) X0 (fun h => by rw [hret] at h; cases h) ⟨by simp_all [own_dom2, own_i64], N0, e0⟩ (by decide) (by decide))
        · refine own_by (fun t k => XS.ifYes X0.here hx rfl (pc0 := 30) (pc' := 37) rfl (hb hby own_d2_30) rfl (own_lge hc30).2 (by decide) (by decide) k) ?_
          show own_Go p.tables e below K (s₁.setTop (mkF m 37 #[.val (.ref ra), .val (.ref rb), .val (.int (0 : Int32)), .val (.int (1 : Int32))] [(.int (0 : Int32))]))
          refine own_by (fun t k => XS.iconst X0.here hx rfl (hb hby own_d2_37) k) ?_
          show own_Go p.tables e below K (s₁.setTop (mkF m 38 #[.val (.ref ra), .val (.ref rb), .val (.int (0 : Int32)), .val (.int (1 : Int32))] [(.int (0 : Int32)), (.int (0 : Int32))]))
          refine own_by (fun t k => XS.ior X0.here hx rfl (hb hby own_d2_38) rfl k) ?_
          show own_Go p.tables e below K (s₁.setTop (mkF m 39 #[.val (.ref ra), .val (.ref rb), .val (.int (0 : Int32)), .val (.int (1 : Int32))] [(.int (0 : Int32))]))
          refine own_by (fun t k => XS.istoreN X0.here hx rfl (hb hby own_d2_39) rfl (l' := #[.val (.ref ra), .val (.ref rb), .val (.int (0 : Int32)), .val (.int (1 : Int32))]) rfl k) ?_
          show own_Go p.tables e below K (s₁.setTop (mkF m 40 #[.val (.ref ra), .val (.ref rb), .val (.int (0 : Int32)), .val (.int (1 : Int32))] []))
          refine own_by (fun t k => XS.iinc X0.here hx rfl (hb hby own_d2_40) rfl (l' := #[.val (.ref ra), .val (.ref rb), .val (.int (0 : Int32)), .val (.int (2 : Int32))]) rfl k) ?_
          show own_Go p.tables e below K (s₁.setTop (mkF m 43 #[.val (.ref ra), .val (.ref rb), .val (.int (0 : Int32)), .val (.int (2 : Int32))] []))
          refine own_by (fun t k => XS.goto X0.here hx rfl (pc0 := 43) (pc' := 4) rfl (hb hby own_d2_43) (by decide) (by decide) k) ?_
          show own_Go p.tables e below K (s₁.setTop (mkF m 4 #[.val (.ref ra), .val (.ref rb), .val (.int (0 : Int32)), .val (.int (2 : Int32))] []))
          refine own_by (fun t k => XS.iloadN X0.here hx rfl (hb hby own_d2_4) rfl k) ?_
          show own_Go p.tables e below K (s₁.setTop (mkF m 5 #[.val (.ref ra), .val (.ref rb), .val (.int (0 : Int32)), .val (.int (2 : Int32))] [(.int (2 : Int32))]))
          refine own_by (fun t k => XS.aloadN X0.here hx rfl (hb hby own_d2_5) rfl rfl k) ?_
          show own_Go p.tables e below K (s₁.setTop (mkF m 6 #[.val (.ref ra), .val (.ref rb), .val (.int (0 : Int32)), .val (.int (2 : Int32))] [(.ref ra), (.int (2 : Int32))]))
          obtain ⟨cl33, Ar33, -, S33, M33, -, -⟩ := id VA
          refine own_by (fun t k => X0.arraylength hx (by rw [e0]; exact Ar33.1) (State.isArrayOf_alike hZ.alike Ar33.2.1) (g := (mkF m 6 #[.val (.ref ra), .val (.ref rb), .val (.int (0 : Int32)), .val (.int (2 : Int32))] [(.ref ra), (.int (2 : Int32))])) rfl rfl (hb hby own_d2_6) t k) ?_
          rw [len_of S33 M33]
          show own_Go p.tables e below K (s₁.setTop (mkF m 7 #[.val (.ref ra), .val (.ref rb), .val (.int (0 : Int32)), .val (.int (2 : Int32))] [(.int (2 : Int32)), (.int (2 : Int32))]))
          have hc7 : ¬ ((2 : Int32) < (2 : Int32)) := by decide
          refine own_by (fun t k => XS.icmpYes X0.here hx rfl (pc0 := 7) (pc' := 46) rfl (hb hby own_d2_7) rfl (flt hc7).2.1 (by decide) (by decide) k) ?_
          show own_Go p.tables e below K (s₁.setTop (mkF m 46 #[.val (.ref ra), .val (.ref rb), .val (.int (0 : Int32)), .val (.int (2 : Int32))] []))
          refine own_by (fun t k => XS.iloadN X0.here hx rfl (hb hby own_d2_46) rfl k) ?_
          show own_Go p.tables e below K (s₁.setTop (mkF m 47 #[.val (.ref ra), .val (.ref rb), .val (.int (0 : Int32)), .val (.int (2 : Int32))] [(.int (0 : Int32))]))
          exact own_retZ X0 hx (t := .boolean) hret (by simp) (hb hby own_d2_47) (hK (some (.int (0 : Int32))) X0 (fun h => by rw [hret] at h; cases h) ⟨by simp_all [own_dom2, own_i64], N0, e0⟩ (by decide) (by decide))
theorem own_d1_41 : decode method_3_code 41 = .ok (.iconst 3, 1) := by decide +kernel
theorem own_d1_42 : decode method_3_code 42 = .ok (.newarray .double, 2) := by decide +kernel
theorem own_d1_44 : decode method_3_code 44 = .ok (.dup, 1) := by decide +kernel
theorem own_d1_45 : decode method_3_code 45 = .ok (.iconst 0, 1) := by decide +kernel
theorem own_d1_46 : decode method_3_code 46 = .ok (.iload_n 1, 1) := by decide +kernel
theorem own_d1_47 : decode method_3_code 47 = .ok (.i2d, 1) := by decide +kernel
theorem own_d1_48 : decode method_3_code 48 = .ok (.dastore, 1) := by decide +kernel
theorem own_d1_49 : decode method_3_code 49 = .ok (.dup, 1) := by decide +kernel
theorem own_d1_50 : decode method_3_code 50 = .ok (.iconst 1, 1) := by decide +kernel
theorem own_d1_51 : decode method_3_code 51 = .ok (.iload_n 2, 1) := by decide +kernel
theorem own_d1_52 : decode method_3_code 52 = .ok (.i2d, 1) := by decide +kernel
theorem own_d1_53 : decode method_3_code 53 = .ok (.dastore, 1) := by decide +kernel
theorem own_d1_54 : decode method_3_code 54 = .ok (.dup, 1) := by decide +kernel
theorem own_d1_55 : decode method_3_code 55 = .ok (.iconst 2, 1) := by decide +kernel
theorem own_d1_56 : decode method_3_code 56 = .ok (.iload_n 3, 1) := by decide +kernel
theorem own_d1_57 : decode method_3_code 57 = .ok (.i2d, 1) := by decide +kernel
theorem own_d1_58 : decode method_3_code 58 = .ok (.dastore, 1) := by decide +kernel
theorem own_d1_59 : decode method_3_code 59 = .ok (.areturn, 1) := by decide +kernel
theorem own_efmk3 (m : MethodId) (a0 : Int32) (a1 : Int32) (a2 : Int32) : entryFrame m #[(.int (3 : Int32)), (.int a0), (.int a1), (.int a2)] 4 = mkF m 0 #[.val (.int (3 : Int32)), .val (.int a0), .val (.int a1), .val (.int a2)] [] := by first | (simp [entryFrame, mkF, argsToLocals, Value.category]; done) | rfl
def own_Qmk3 (Z : State) (a0 : Int32) (a1 : Int32) (a2 : Int32) (h0 : Heap) (n0 : Nat) (v : Option Value) (h : Heap) (L : List Loc) : Prop := ∃ (r : Addr) (k : ClassId), v = some (.ref r) ∧ Fr n0 L ∧ Keep h0 h [] ∧ Arv Z h r k .double (3 : Int32) [(.double (FP.l2d a0.toInt64)), (.double (FP.l2d a1.toInt64)), (.double (FP.l2d a2.toInt64))] (.double (FP.l2d 0))
set_option maxRecDepth 65536 in
set_option maxHeartbeats 40000000 in
theorem own_rmmk3 (l : Launch) (Z : State) (aw : Array Value) (hw : ∀ d ∈ tables_1, d.before aw Z = true) (ws : List Jvm.Cond) (a0 : Int32) (a1 : Int32) (a2 : Int32) (h0 : Heap) (n0 : Nat) (Z0 : n0 ≤ h0.size)  :
    MetFree l (⟨"com/example/manyfront/manyfront/sorting/NondominatedSortingDominatesPinLaw", "make", "(IIII)[D"⟩ : MethodName) (head1 (Jvm.Cond.code (⟨"com/example/manyfront/manyfront/sorting/NondominatedSortingDominatesPinLaw", "make", "(IIII)[D"⟩ : MethodName) method_3_code 4 (some (.array .double)) :: ws) ({ frames := 0, cells := 1, slots := 3, locals := 0 } : Room)) (fun a U => a = #[(.int (3 : Int32)), (.int a0), (.int a1), (.int a2)] ∧ Z.Warmed39 U.vm ∧ U.heap = h0) (fun _ _ _ _ _ => True) (fun _ U o U' => ∃ v L, o = .returned v ∧ own_Qmk3 Z a0 a1 a2 h0 n0 v U'.heap L ∧ FrameEnd U o U' L ({ frames := 0, cells := 1, slots := 3, locals := 0 } : Room).cells ({ frames := 0, cells := 1, slots := 3, locals := 0 } : Room).slots) := by
  refine own_met (Q := own_Qmk3 Z a0 a1 a2 h0 n0) (plainFor_of_name own_pn1) ?_
  intro p e s m below meth c s₁ K hx hby hml hown hnm hret hZ X0 e0 hK
  have hown : s.vm.findClass "com/example/manyfront/manyfront/sorting/NondominatedSortingDominatesPinLaw" = some m.cls := hown
  have N0 := Fr.nil n0
  refine own_by (fun t k => castTop (own_efmk3 m a0 a1 a2) k) ?_
  show own_Go p.tables e below K (s₁.setTop (mkF m 0 #[.val (.int (3 : Int32)), .val (.int a0), .val (.int a1), .val (.int a2)] []))
  refine own_by (fun t k => XS.iloadN X0.here hx rfl (hb hby own_d1_0) rfl k) ?_
  show own_Go p.tables e below K (s₁.setTop (mkF m 1 #[.val (.int (3 : Int32)), .val (.int a0), .val (.int a1), .val (.int a2)] [(.int (3 : Int32))]))
  have hc1 : ¬ ((3 : Int32) = (0 : Int32)) := by decide
  refine own_by (fun t k => XS.ifYes X0.here hx rfl (pc0 := 1) (pc' := 8) rfl (hb hby own_d1_1) rfl ((if0 _ _).trans (feq hc1).2) (by decide) (by decide) k) ?_
  show own_Go p.tables e below K (s₁.setTop (mkF m 8 #[.val (.int (3 : Int32)), .val (.int a0), .val (.int a1), .val (.int a2)] []))
  refine own_by (fun t k => XS.iloadN X0.here hx rfl (hb hby own_d1_8) rfl k) ?_
  show own_Go p.tables e below K (s₁.setTop (mkF m 9 #[.val (.int (3 : Int32)), .val (.int a0), .val (.int a1), .val (.int a2)] [(.int (3 : Int32))]))
  refine own_by (fun t k => XS.iconst X0.here hx rfl (hb hby own_d1_9) k) ?_
  show own_Go p.tables e below K (s₁.setTop (mkF m 10 #[.val (.int (3 : Int32)), .val (.int a0), .val (.int a1), .val (.int a2)] [(.int (1 : Int32)), (.int (3 : Int32))]))
  have hc10 : ¬ ((3 : Int32) = (1 : Int32)) := by decide
  refine own_by (fun t k => XS.icmpYes X0.here hx rfl (pc0 := 10) (pc' := 22) rfl (hb hby own_d1_10) rfl (feq hc10).2 (by decide) (by decide) k) ?_
  show own_Go p.tables e below K (s₁.setTop (mkF m 22 #[.val (.int (3 : Int32)), .val (.int a0), .val (.int a1), .val (.int a2)] []))
  refine own_by (fun t k => XS.iloadN X0.here hx rfl (hb hby own_d1_22) rfl k) ?_
  show own_Go p.tables e below K (s₁.setTop (mkF m 23 #[.val (.int (3 : Int32)), .val (.int a0), .val (.int a1), .val (.int a2)] [(.int (3 : Int32))]))
  refine own_by (fun t k => XS.iconst X0.here hx rfl (hb hby own_d1_23) k) ?_
  show own_Go p.tables e below K (s₁.setTop (mkF m 24 #[.val (.int (3 : Int32)), .val (.int a0), .val (.int a1), .val (.int a2)] [(.int (2 : Int32)), (.int (3 : Int32))]))
  have hc24 : ¬ ((3 : Int32) = (2 : Int32)) := by decide
  refine own_by (fun t k => XS.icmpYes X0.here hx rfl (pc0 := 24) (pc' := 41) rfl (hb hby own_d1_24) rfl (feq hc24).2 (by decide) (by decide) k) ?_
  show own_Go p.tables e below K (s₁.setTop (mkF m 41 #[.val (.int (3 : Int32)), .val (.int a0), .val (.int a1), .val (.int a2)] []))
  refine own_by (fun t k => XS.iconst X0.here hx rfl (hb hby own_d1_41) k) ?_
  show own_Go p.tables e below K (s₁.setTop (mkF m 42 #[.val (.int (3 : Int32)), .val (.int a0), .val (.int a1), .val (.int a2)] [(.int (3 : Int32))]))
  obtain ⟨T34, h34, k34, X34, e34, E34, A34, st34⟩ := newP X0 hx hZ (hw _ (List.mem_of_getElem? (i := 4) rfl)) e0 (g := (mkF m 42 #[.val (.int (3 : Int32)), .val (.int a0), .val (.int a1), .val (.int a2)] [(.int (3 : Int32))])) rfl (hb hby own_d1_42) rfl (by decide) (cap := 3) (by decide) (by decide) (by decide) (by decide)
  obtain ⟨b34, g34⟩ : ∃ z, z = h0.size := ⟨_, rfl⟩
  rw [← g34] at A34 st34
  refine own_by st34 ?_
  have gn_b34 : n0 ≤ b34 := Nat.le_trans Z0 (Nat.le_of_eq g34.symm)
  have sz_b34 : h0.size ≤ b34 := Nat.le_trans (Keep.refl h0 []).1 (Nat.le_of_eq g34.symm)
  have K34 := (Keep.refl h0 []).ext E34
  have Z34 := Nat.le_trans Z0 E34.1
  have V34 : Arv Z h34 b34 k34 .double (3 : Int32) [(.double (FP.l2d 0)), (.double (FP.l2d 0)), (.double (FP.l2d 0))] (.double (FP.l2d 0)) := (Arv.newD A34 (by decide)).pad (pad_rep [] (.double (FP.l2d 0)) 3)
  show own_Go p.tables e below K (T34.setTop (mkF m 44 #[.val (.int (3 : Int32)), .val (.int a0), .val (.int a1), .val (.int a2)] [(.ref b34)]))
  refine own_by (fun t k => XS.dup X34.here hx rfl (hb hby own_d1_44) rfl rfl k) ?_
  show own_Go p.tables e below K (T34.setTop (mkF m 45 #[.val (.int (3 : Int32)), .val (.int a0), .val (.int a1), .val (.int a2)] [(.ref b34), (.ref b34)]))
  refine own_by (fun t k => XS.iconst X34.here hx rfl (hb hby own_d1_45) k) ?_
  show own_Go p.tables e below K (T34.setTop (mkF m 46 #[.val (.int (3 : Int32)), .val (.int a0), .val (.int a1), .val (.int a2)] [(.int (0 : Int32)), (.ref b34), (.ref b34)]))
  refine own_by (fun t k => XS.iloadN X34.here hx rfl (hb hby own_d1_46) rfl k) ?_
  show own_Go p.tables e below K (T34.setTop (mkF m 47 #[.val (.int (3 : Int32)), .val (.int a0), .val (.int a1), .val (.int a2)] [(.int a0), (.int (0 : Int32)), (.ref b34), (.ref b34)]))
  refine own_by (fun t k => XS.i2dS X34.here hx rfl (hb hby own_d1_47) rfl (i2d_w _) k) ?_
  show own_Go p.tables e below K (T34.setTop (mkF m 48 #[.val (.int (3 : Int32)), .val (.int a0), .val (.int a1), .val (.int a2)] [(.double (FP.l2d a0.toInt64)), (.int (0 : Int32)), (.ref b34), (.ref b34)]))
  obtain ⟨cl35, Ar35, q35, S35, M35, H35, U35⟩ := id V34
  obtain ⟨T35, h35, X35, e35, W35, st35⟩ := stD X34 hx hZ e34 Ar35 (j := (0 : Int32)) (inb_of S35 ⟨by decide, by decide⟩) (g := (mkF m 48 #[.val (.int (3 : Int32)), .val (.int a0), .val (.int a1), .val (.int a2)] [(.double (FP.l2d a0.toInt64)), (.int (0 : Int32)), (.ref b34), (.ref b34)])) rfl rfl (hb hby own_d1_48)
  refine own_by st35 ?_
  have V35 : Arv Z h35 b34 k34 .double (3 : Int32) [(.double (FP.l2d a0.toInt64)), (.double (FP.l2d 0)), (.double (FP.l2d 0))] (.double (FP.l2d 0)) := Arv.set Ar35 q35 S35 M35 H35 U35 rfl W35 0 rfl (Nat.le_of_ble_eq_true rfl)
  have Z35 := Nat.le_trans Z34 (Keep.of_wr W35).1
  have K35 := K34.wr W35 (Or.inr sz_b34)
  have N35 := Fr.snoc X35 N0 gn_b34
  show own_Go p.tables e below K (T35.setTop (mkF m 49 #[.val (.int (3 : Int32)), .val (.int a0), .val (.int a1), .val (.int a2)] [(.ref b34)]))
  refine own_by (fun t k => XS.dup X35.here hx rfl (hb hby own_d1_49) rfl rfl k) ?_
  show own_Go p.tables e below K (T35.setTop (mkF m 50 #[.val (.int (3 : Int32)), .val (.int a0), .val (.int a1), .val (.int a2)] [(.ref b34), (.ref b34)]))
  refine own_by (fun t k => XS.iconst X35.here hx rfl (hb hby own_d1_50) k) ?_
  show own_Go p.tables e below K (T35.setTop (mkF m 51 #[.val (.int (3 : Int32)), .val (.int a0), .val (.int a1), .val (.int a2)] [(.int (1 : Int32)), (.ref b34), (.ref b34)]))
  refine own_by (fun t k => XS.iloadN X35.here hx rfl (hb hby own_d1_51) rfl k) ?_
  show own_Go p.tables e below K (T35.setTop (mkF m 52 #[.val (.int (3 : Int32)), .val (.int a0), .val (.int a1), .val (.int a2)] [(.int a1), (.int (1 : Int32)), (.ref b34), (.ref b34)]))
  refine own_by (fun t k => XS.i2dS X35.here hx rfl (hb hby own_d1_52) rfl (i2d_w _) k) ?_
  show own_Go p.tables e below K (T35.setTop (mkF m 53 #[.val (.int (3 : Int32)), .val (.int a0), .val (.int a1), .val (.int a2)] [(.double (FP.l2d a1.toInt64)), (.int (1 : Int32)), (.ref b34), (.ref b34)]))
  obtain ⟨cl36, Ar36, q36, S36, M36, H36, U36⟩ := id V35
  obtain ⟨T36, h36, X36, e36, W36, st36⟩ := stD X35 hx hZ e35 Ar36 (j := (1 : Int32)) (inb_of S36 ⟨by decide, by decide⟩) (g := (mkF m 53 #[.val (.int (3 : Int32)), .val (.int a0), .val (.int a1), .val (.int a2)] [(.double (FP.l2d a1.toInt64)), (.int (1 : Int32)), (.ref b34), (.ref b34)])) rfl rfl (hb hby own_d1_53)
  refine own_by st36 ?_
  have V36 : Arv Z h36 b34 k34 .double (3 : Int32) [(.double (FP.l2d a0.toInt64)), (.double (FP.l2d a1.toInt64)), (.double (FP.l2d 0))] (.double (FP.l2d 0)) := Arv.set Ar36 q36 S36 M36 H36 U36 rfl W36 1 rfl (Nat.le_of_ble_eq_true rfl)
  have Z36 := Nat.le_trans Z35 (Keep.of_wr W36).1
  have K36 := K35.wr W36 (Or.inr sz_b34)
  have N36 := Fr.snoc X36 N35 gn_b34
  show own_Go p.tables e below K (T36.setTop (mkF m 54 #[.val (.int (3 : Int32)), .val (.int a0), .val (.int a1), .val (.int a2)] [(.ref b34)]))
  refine own_by (fun t k => XS.dup X36.here hx rfl (hb hby own_d1_54) rfl rfl k) ?_
  show own_Go p.tables e below K (T36.setTop (mkF m 55 #[.val (.int (3 : Int32)), .val (.int a0), .val (.int a1), .val (.int a2)] [(.ref b34), (.ref b34)]))
  refine own_by (fun t k => XS.iconst X36.here hx rfl (hb hby own_d1_55) k) ?_
  show own_Go p.tables e below K (T36.setTop (mkF m 56 #[.val (.int (3 : Int32)), .val (.int a0), .val (.int a1), .val (.int a2)] [(.int (2 : Int32)), (.ref b34), (.ref b34)]))
  refine own_by (fun t k => XS.iloadN X36.here hx rfl (hb hby own_d1_56) rfl k) ?_
  show own_Go p.tables e below K (T36.setTop (mkF m 57 #[.val (.int (3 : Int32)), .val (.int a0), .val (.int a1), .val (.int a2)] [(.int a2), (.int (2 : Int32)), (.ref b34), (.ref b34)]))
  refine own_by (fun t k => XS.i2dS X36.here hx rfl (hb hby own_d1_57) rfl (i2d_w _) k) ?_
  show own_Go p.tables e below K (T36.setTop (mkF m 58 #[.val (.int (3 : Int32)), .val (.int a0), .val (.int a1), .val (.int a2)] [(.double (FP.l2d a2.toInt64)), (.int (2 : Int32)), (.ref b34), (.ref b34)]))
  obtain ⟨cl37, Ar37, q37, S37, M37, H37, U37⟩ := id V36
  obtain ⟨T37, h37, X37, e37, W37, st37⟩ := stD X36 hx hZ e36 Ar37 (j := (2 : Int32)) (inb_of S37 ⟨by decide, by decide⟩) (g := (mkF m 58 #[.val (.int (3 : Int32)), .val (.int a0), .val (.int a1), .val (.int a2)] [(.double (FP.l2d a2.toInt64)), (.int (2 : Int32)), (.ref b34), (.ref b34)])) rfl rfl (hb hby own_d1_58)
  refine own_by st37 ?_
  have V37 : Arv Z h37 b34 k34 .double (3 : Int32) [(.double (FP.l2d a0.toInt64)), (.double (FP.l2d a1.toInt64)), (.double (FP.l2d a2.toInt64))] (.double (FP.l2d 0)) := Arv.set Ar37 q37 S37 M37 H37 U37 rfl W37 2 rfl (Nat.le_of_ble_eq_true rfl)
  have Z37 := Nat.le_trans Z36 (Keep.of_wr W37).1
  have K37 := K36.wr W37 (Or.inr sz_b34)
  have N37 := Fr.snoc X37 N36 gn_b34
  show own_Go p.tables e below K (T37.setTop (mkF m 59 #[.val (.int (3 : Int32)), .val (.int a0), .val (.int a1), .val (.int a2)] [(.ref b34)]))
  exact own_retA X37 hx hret rfl rfl rfl (hb hby own_d1_59) (hK (some (.ref b34)) X37 (fun h => by rw [hret] at h; cases h) (by rw [e37]; exact ⟨_, _, rfl, N37, K37, V37⟩) (by decide) (by decide))
theorem own_efdm3 (m : MethodId) (ra : Addr) (rb : Addr) : entryFrame m #[(.ref ra), (.ref rb)] 4 = mkF m 0 #[.val (.ref ra), .val (.ref rb), .unset, .unset] [] := by first | (simp [entryFrame, mkF, argsToLocals, Value.category]; done) | rfl
def own_Qdm3 (Z : State) (ra : Addr) (rb : Addr) (ka : ClassId) (kb : ClassId) (a0 : Int32) (a1 : Int32) (a2 : Int32) (b0 : Int32) (b1 : Int32) (b2 : Int32) (h0 : Heap) (n0 : Nat) (v : Option Value) (h : Heap) (L : List Loc) : Prop := v = some (.int (own_dom3 a0 a1 a2 b0 b1 b2)) ∧ Fr n0 L ∧ h = h0
set_option maxRecDepth 65536 in
set_option maxHeartbeats 40000000 in
theorem own_rmdm3 (l : Launch) (Z : State) (aw : Array Value) (hw : ∀ d ∈ tables_1, d.before aw Z = true) (ws : List Jvm.Cond) (ra : Addr) (rb : Addr) (ka : ClassId) (kb : ClassId) (a0 : Int32) (a1 : Int32) (a2 : Int32) (b0 : Int32) (b1 : Int32) (b2 : Int32) (h0 : Heap) (n0 : Nat) (Z0 : n0 ≤ h0.size) (VA : Arv Z h0 ra ka .double (3 : Int32) [(.double (FP.l2d a0.toInt64)), (.double (FP.l2d a1.toInt64)), (.double (FP.l2d a2.toInt64))] (.double (FP.l2d 0))) (VB : Arv Z h0 rb kb .double (3 : Int32) [(.double (FP.l2d b0.toInt64)), (.double (FP.l2d b1.toInt64)), (.double (FP.l2d b2.toInt64))] (.double (FP.l2d 0))) :
    MetFree l (⟨"com/example/manyfront/manyfront/sorting/NondominatedSorting", "dominates", "([D[D)Z"⟩ : MethodName) (head1 (Jvm.Cond.code (⟨"com/example/manyfront/manyfront/sorting/NondominatedSorting", "dominates", "([D[D)Z"⟩ : MethodName) prog_73_method_2_code 4 (some .boolean) :: ws) ({ frames := 0, cells := 0, slots := 0, locals := 0 } : Room)) (fun a U => a = #[(.ref ra), (.ref rb)] ∧ Z.Warmed39 U.vm ∧ U.heap = h0) (fun _ _ _ _ _ => True) (fun _ U o U' => ∃ v L, o = .returned v ∧ own_Qdm3 Z ra rb ka kb a0 a1 a2 b0 b1 b2 h0 n0 v U'.heap L ∧ FrameEnd U o U' L ({ frames := 0, cells := 0, slots := 0, locals := 0 } : Room).cells ({ frames := 0, cells := 0, slots := 0, locals := 0 } : Room).slots) := by
  refine own_met (Q := own_Qdm3 Z ra rb ka kb a0 a1 a2 b0 b1 b2 h0 n0) (plainFor_of_name own_pn2) ?_
  intro p e s m below meth c s₁ K hx hby hml hown hnm hret hZ X0 e0 hK
  have hown : s.vm.findClass "com/example/manyfront/manyfront/sorting/NondominatedSorting" = some m.cls := hown
  have N0 := Fr.nil n0
  refine own_by (fun t k => castTop (own_efdm3 m ra rb) k) ?_
  show own_Go p.tables e below K (s₁.setTop (mkF m 0 #[.val (.ref ra), .val (.ref rb), .unset, .unset] []))
  refine own_by (fun t k => XS.iconst X0.here hx rfl (hb hby own_d2_0) k) ?_
  show own_Go p.tables e below K (s₁.setTop (mkF m 1 #[.val (.ref ra), .val (.ref rb), .unset, .unset] [(.int (0 : Int32))]))
  refine own_by (fun t k => XS.istoreN X0.here hx rfl (hb hby own_d2_1) rfl (l' := #[.val (.ref ra), .val (.ref rb), .val (.int (0 : Int32)), .unset]) rfl k) ?_
  show own_Go p.tables e below K (s₁.setTop (mkF m 2 #[.val (.ref ra), .val (.ref rb), .val (.int (0 : Int32)), .unset] []))
  refine own_by (fun t k => XS.iconst X0.here hx rfl (hb hby own_d2_2) k) ?_
  show own_Go p.tables e below K (s₁.setTop (mkF m 3 #[.val (.ref ra), .val (.ref rb), .val (.int (0 : Int32)), .unset] [(.int (0 : Int32))]))
  refine own_by (fun t k => XS.istoreN X0.here hx rfl (hb hby own_d2_3) rfl (l' := #[.val (.ref ra), .val (.ref rb), .val (.int (0 : Int32)), .val (.int (0 : Int32))]) rfl k) ?_
  show own_Go p.tables e below K (s₁.setTop (mkF m 4 #[.val (.ref ra), .val (.ref rb), .val (.int (0 : Int32)), .val (.int (0 : Int32))] []))
  refine own_by (fun t k => XS.iloadN X0.here hx rfl (hb hby own_d2_4) rfl k) ?_
  show own_Go p.tables e below K (s₁.setTop (mkF m 5 #[.val (.ref ra), .val (.ref rb), .val (.int (0 : Int32)), .val (.int (0 : Int32))] [(.int (0 : Int32))]))
  refine own_by (fun t k => XS.aloadN X0.here hx rfl (hb hby own_d2_5) rfl rfl k) ?_
  show own_Go p.tables e below K (s₁.setTop (mkF m 6 #[.val (.ref ra), .val (.ref rb), .val (.int (0 : Int32)), .val (.int (0 : Int32))] [(.ref ra), (.int (0 : Int32))]))
  obtain ⟨cl38, Ar38, -, S38, M38, -, -⟩ := id VA
  refine own_by (fun t k => X0.arraylength hx (by rw [e0]; exact Ar38.1) (State.isArrayOf_alike hZ.alike Ar38.2.1) (g := (mkF m 6 #[.val (.ref ra), .val (.ref rb), .val (.int (0 : Int32)), .val (.int (0 : Int32))] [(.ref ra), (.int (0 : Int32))])) rfl rfl (hb hby own_d2_6) t k) ?_
  rw [len_of S38 M38]
  show own_Go p.tables e below K (s₁.setTop (mkF m 7 #[.val (.ref ra), .val (.ref rb), .val (.int (0 : Int32)), .val (.int (0 : Int32))] [(.int (3 : Int32)), (.int (0 : Int32))]))
  have hc7 : (0 : Int32) < (3 : Int32) := by decide
  refine own_by (fun t k => XS.icmpNo X0.here hx rfl (hb hby own_d2_7) rfl (tlt hc7).2.1 k) ?_
  show own_Go p.tables e below K (s₁.setTop (mkF m 10 #[.val (.ref ra), .val (.ref rb), .val (.int (0 : Int32)), .val (.int (0 : Int32))] []))
  refine own_by (fun t k => XS.aloadN X0.here hx rfl (hb hby own_d2_10) rfl rfl k) ?_
  show own_Go p.tables e below K (s₁.setTop (mkF m 11 #[.val (.ref ra), .val (.ref rb), .val (.int (0 : Int32)), .val (.int (0 : Int32))] [(.ref ra)]))
  refine own_by (fun t k => XS.iloadN X0.here hx rfl (hb hby own_d2_11) rfl k) ?_
  show own_Go p.tables e below K (s₁.setTop (mkF m 12 #[.val (.ref ra), .val (.ref rb), .val (.int (0 : Int32)), .val (.int (0 : Int32))] [(.int (0 : Int32)), (.ref ra)]))
  obtain ⟨cl39, Ar39, -, S39, M39, H39, -⟩ := id VA
  refine own_by (fun t k => X0.daload hx (j := (0 : Int32)) (v := (.double (FP.l2d a0.toInt64))) (by rw [e0]; exact Ar39.1) (State.isArrayOf_alike hZ.alike Ar39.2.1) Ar39.2.2 (inb_of S39 ⟨by decide, by decide⟩) (H39 0 (by rw [S39]; decide)) (g := (mkF m 12 #[.val (.ref ra), .val (.ref rb), .val (.int (0 : Int32)), .val (.int (0 : Int32))] [(.int (0 : Int32)), (.ref ra)])) rfl rfl (hb hby own_d2_12) t k) ?_
  show own_Go p.tables e below K (s₁.setTop (mkF m 13 #[.val (.ref ra), .val (.ref rb), .val (.int (0 : Int32)), .val (.int (0 : Int32))] [(.double (FP.l2d a0.toInt64))]))
  refine own_by (fun t k => XS.aloadN X0.here hx rfl (hb hby own_d2_13) rfl rfl k) ?_
  show own_Go p.tables e below K (s₁.setTop (mkF m 14 #[.val (.ref ra), .val (.ref rb), .val (.int (0 : Int32)), .val (.int (0 : Int32))] [(.ref rb), (.double (FP.l2d a0.toInt64))]))
  refine own_by (fun t k => XS.iloadN X0.here hx rfl (hb hby own_d2_14) rfl k) ?_
  show own_Go p.tables e below K (s₁.setTop (mkF m 15 #[.val (.ref ra), .val (.ref rb), .val (.int (0 : Int32)), .val (.int (0 : Int32))] [(.int (0 : Int32)), (.ref rb), (.double (FP.l2d a0.toInt64))]))
  obtain ⟨cl40, Ar40, -, S40, M40, H40, -⟩ := id VB
  refine own_by (fun t k => X0.daload hx (j := (0 : Int32)) (v := (.double (FP.l2d b0.toInt64))) (by rw [e0]; exact Ar40.1) (State.isArrayOf_alike hZ.alike Ar40.2.1) Ar40.2.2 (inb_of S40 ⟨by decide, by decide⟩) (H40 0 (by rw [S40]; decide)) (g := (mkF m 15 #[.val (.ref ra), .val (.ref rb), .val (.int (0 : Int32)), .val (.int (0 : Int32))] [(.int (0 : Int32)), (.ref rb), (.double (FP.l2d a0.toInt64))])) rfl rfl (hb hby own_d2_15) t k) ?_
  show own_Go p.tables e below K (s₁.setTop (mkF m 16 #[.val (.ref ra), .val (.ref rb), .val (.int (0 : Int32)), .val (.int (0 : Int32))] [(.double (FP.l2d b0.toInt64)), (.double (FP.l2d a0.toInt64))]))
  refine own_by (fun t k => XS.dcmpS X0.here hx rfl (hb hby own_d2_16) rfl (dcmpV_w (own_b53 _) (own_b53 _) _) k) ?_
  show own_Go p.tables e below K (s₁.setTop (mkF m 17 #[.val (.ref ra), .val (.ref rb), .val (.int (0 : Int32)), .val (.int (0 : Int32))] [(.int (lcmpW a0.toInt64 b0.toInt64))]))
  by_cases hc17 : b0.toInt64 < a0.toInt64
  · refine own_by (fun t k => XS.ifNo X0.here hx rfl (hb hby own_d2_17) rfl (own_lgt hc17).2 k) ?_
    show own_Go p.tables e below K (s₁.setTop (mkF m 20 #[.val (.ref ra), .val (.ref rb), .val (.int (0 : Int32)), .val (.int (0 : Int32))] []))
    refine own_by (fun t k => XS.iconst X0.here hx rfl (hb hby own_d2_20) k) ?_
    show own_Go p.tables e below K (s₁.setTop (mkF m 21 #[.val (.ref ra), .val (.ref rb), .val (.int (0 : Int32)), .val (.int (0 : Int32))] [(.int (0 : Int32))]))
    exact own_retZ X0 hx (t := .boolean) hret (by simp) (hb hby own_d2_21) (hK (some (.int (0 : Int32))) X0 (fun h => by rw [hret] at h; cases h) ⟨by simp_all [own_dom3, own_i64], N0, e0⟩ (by decide) (by decide))
  · refine own_by (fun t k => XS.ifYes X0.here hx rfl (pc0 := 17) (pc' := 22) rfl (hb hby own_d2_17) rfl (own_lle hc17).2 (by decide) (by decide) k) ?_
    show own_Go p.tables e below K (s₁.setTop (mkF m 22 #[.val (.ref ra), .val (.ref rb), .val (.int (0 : Int32)), .val (.int (0 : Int32))] []))
    refine own_by (fun t k => XS.iloadN X0.here hx rfl (hb hby own_d2_22) rfl k) ?_
    show own_Go p.tables e below K (s₁.setTop (mkF m 23 #[.val (.ref ra), .val (.ref rb), .val (.int (0 : Int32)), .val (.int (0 : Int32))] [(.int (0 : Int32))]))
    refine own_by (fun t k => XS.aloadN X0.here hx rfl (hb hby own_d2_23) rfl rfl k) ?_
    show own_Go p.tables e below K (s₁.setTop (mkF m 24 #[.val (.ref ra), .val (.ref rb), .val (.int (0 : Int32)), .val (.int (0 : Int32))] [(.ref ra), (.int (0 : Int32))]))
    refine own_by (fun t k => XS.iloadN X0.here hx rfl (hb hby own_d2_24) rfl k) ?_
    show own_Go p.tables e below K (s₁.setTop (mkF m 25 #[.val (.ref ra), .val (.ref rb), .val (.int (0 : Int32)), .val (.int (0 : Int32))] [(.int (0 : Int32)), (.ref ra), (.int (0 : Int32))]))
    obtain ⟨cl41, Ar41, -, S41, M41, H41, -⟩ := id VA
    refine own_by (fun t k => X0.daload hx (j := (0 : Int32)) (v := (.double (FP.l2d a0.toInt64))) (by rw [e0]; exact Ar41.1) (State.isArrayOf_alike hZ.alike Ar41.2.1) Ar41.2.2 (inb_of S41 ⟨by decide, by decide⟩) (H41 0 (by rw [S41]; decide)) (g := (mkF m 25 #[.val (.ref ra), .val (.ref rb), .val (.int (0 : Int32)), .val (.int (0 : Int32))] [(.int (0 : Int32)), (.ref ra), (.int (0 : Int32))])) rfl rfl (hb hby own_d2_25) t k) ?_
    show own_Go p.tables e below K (s₁.setTop (mkF m 26 #[.val (.ref ra), .val (.ref rb), .val (.int (0 : Int32)), .val (.int (0 : Int32))] [(.double (FP.l2d a0.toInt64)), (.int (0 : Int32))]))
    refine own_by (fun t k => XS.aloadN X0.here hx rfl (hb hby own_d2_26) rfl rfl k) ?_
    show own_Go p.tables e below K (s₁.setTop (mkF m 27 #[.val (.ref ra), .val (.ref rb), .val (.int (0 : Int32)), .val (.int (0 : Int32))] [(.ref rb), (.double (FP.l2d a0.toInt64)), (.int (0 : Int32))]))
    refine own_by (fun t k => XS.iloadN X0.here hx rfl (hb hby own_d2_27) rfl k) ?_
    show own_Go p.tables e below K (s₁.setTop (mkF m 28 #[.val (.ref ra), .val (.ref rb), .val (.int (0 : Int32)), .val (.int (0 : Int32))] [(.int (0 : Int32)), (.ref rb), (.double (FP.l2d a0.toInt64)), (.int (0 : Int32))]))
    obtain ⟨cl42, Ar42, -, S42, M42, H42, -⟩ := id VB
    refine own_by (fun t k => X0.daload hx (j := (0 : Int32)) (v := (.double (FP.l2d b0.toInt64))) (by rw [e0]; exact Ar42.1) (State.isArrayOf_alike hZ.alike Ar42.2.1) Ar42.2.2 (inb_of S42 ⟨by decide, by decide⟩) (H42 0 (by rw [S42]; decide)) (g := (mkF m 28 #[.val (.ref ra), .val (.ref rb), .val (.int (0 : Int32)), .val (.int (0 : Int32))] [(.int (0 : Int32)), (.ref rb), (.double (FP.l2d a0.toInt64)), (.int (0 : Int32))])) rfl rfl (hb hby own_d2_28) t k) ?_
    show own_Go p.tables e below K (s₁.setTop (mkF m 29 #[.val (.ref ra), .val (.ref rb), .val (.int (0 : Int32)), .val (.int (0 : Int32))] [(.double (FP.l2d b0.toInt64)), (.double (FP.l2d a0.toInt64)), (.int (0 : Int32))]))
    refine own_by (fun t k => XS.dcmpS X0.here hx rfl (hb hby own_d2_29) rfl (dcmpV_w (own_b53 _) (own_b53 _) _) k) ?_
    show own_Go p.tables e below K (s₁.setTop (mkF m 30 #[.val (.ref ra), .val (.ref rb), .val (.int (0 : Int32)), .val (.int (0 : Int32))] [(.int (lcmpW a0.toInt64 b0.toInt64)), (.int (0 : Int32))]))
    by_cases hc30 : a0.toInt64 < b0.toInt64
    · refine own_by (fun t k => XS.ifNo X0.here hx rfl (hb hby own_d2_30) rfl (own_llt hc30).2 k) ?_
      show own_Go p.tables e below K (s₁.setTop (mkF m 33 #[.val (.ref ra), .val (.ref rb), .val (.int (0 : Int32)), .val (.int (0 : Int32))] [(.int (0 : Int32))]))
      refine own_by (fun t k => XS.iconst X0.here hx rfl (hb hby own_d2_33) k) ?_
      show own_Go p.tables e below K (s₁.setTop (mkF m 34 #[.val (.ref ra), .val (.ref rb), .val (.int (0 : Int32)), .val (.int (0 : Int32))] [(.int (1 : Int32)), (.int (0 : Int32))]))
      refine own_by (fun t k => XS.goto X0.here hx rfl (pc0 := 34) (pc' := 38) rfl (hb hby own_d2_34) (by decide) (by decide) k) ?_
      show own_Go p.tables e below K (s₁.setTop (mkF m 38 #[.val (.ref ra), .val (.ref rb), .val (.int (0 : Int32)), .val (.int (0 : Int32))] [(.int (1 : Int32)), (.int (0 : Int32))]))
      refine own_by (fun t k => XS.ior X0.here hx rfl (hb hby own_d2_38) rfl k) ?_
      show own_Go p.tables e below K (s₁.setTop (mkF m 39 #[.val (.ref ra), .val (.ref rb), .val (.int (0 : Int32)), .val (.int (0 : Int32))] [(.int (1 : Int32))]))
      refine own_by (fun t k => XS.istoreN X0.here hx rfl (hb hby own_d2_39) rfl (l' := #[.val (.ref ra), .val (.ref rb), .val (.int (1 : Int32)), .val (.int (0 : Int32))]) rfl k) ?_
      show own_Go p.tables e below K (s₁.setTop (mkF m 40 #[.val (.ref ra), .val (.ref rb), .val (.int (1 : Int32)), .val (.int (0 : Int32))] []))
      refine own_by (fun t k => XS.iinc X0.here hx rfl (hb hby own_d2_40) rfl (l' := #[.val (.ref ra), .val (.ref rb), .val (.int (1 : Int32)), .val (.int (1 : Int32))]) rfl k) ?_
      show own_Go p.tables e below K (s₁.setTop (mkF m 43 #[.val (.ref ra), .val (.ref rb), .val (.int (1 : Int32)), .val (.int (1 : Int32))] []))
      refine own_by (fun t k => XS.goto X0.here hx rfl (pc0 := 43) (pc' := 4) rfl (hb hby own_d2_43) (by decide) (by decide) k) ?_
      show own_Go p.tables e below K (s₁.setTop (mkF m 4 #[.val (.ref ra), .val (.ref rb), .val (.int (1 : Int32)), .val (.int (1 : Int32))] []))
      refine own_by (fun t k => XS.iloadN X0.here hx rfl (hb hby own_d2_4) rfl k) ?_
      show own_Go p.tables e below K (s₁.setTop (mkF m 5 #[.val (.ref ra), .val (.ref rb), .val (.int (1 : Int32)), .val (.int (1 : Int32))] [(.int (1 : Int32))]))
      refine own_by (fun t k => XS.aloadN X0.here hx rfl (hb hby own_d2_5) rfl rfl k) ?_
      show own_Go p.tables e below K (s₁.setTop (mkF m 6 #[.val (.ref ra), .val (.ref rb), .val (.int (1 : Int32)), .val (.int (1 : Int32))] [(.ref ra), (.int (1 : Int32))]))
      obtain ⟨cl43, Ar43, -, S43, M43, -, -⟩ := id VA
      refine own_by (fun t k => X0.arraylength hx (by rw [e0]; exact Ar43.1) (State.isArrayOf_alike hZ.alike Ar43.2.1) (g := (mkF m 6 #[.val (.ref ra), .val (.ref rb), .val (.int (1 : Int32)), .val (.int (1 : Int32))] [(.ref ra), (.int (1 : Int32))])) rfl rfl (hb hby own_d2_6) t k) ?_
      rw [len_of S43 M43]
      show own_Go p.tables e below K (s₁.setTop (mkF m 7 #[.val (.ref ra), .val (.ref rb), .val (.int (1 : Int32)), .val (.int (1 : Int32))] [(.int (3 : Int32)), (.int (1 : Int32))]))
      have hc7 : (1 : Int32) < (3 : Int32) := by decide
      refine own_by (fun t k => XS.icmpNo X0.here hx rfl (hb hby own_d2_7) rfl (tlt hc7).2.1 k) ?_
      show own_Go p.tables e below K (s₁.setTop (mkF m 10 #[.val (.ref ra), .val (.ref rb), .val (.int (1 : Int32)), .val (.int (1 : Int32))] []))
      refine own_by (fun t k => XS.aloadN X0.here hx rfl (hb hby own_d2_10) rfl rfl k) ?_
      show own_Go p.tables e below K (s₁.setTop (mkF m 11 #[.val (.ref ra), .val (.ref rb), .val (.int (1 : Int32)), .val (.int (1 : Int32))] [(.ref ra)]))
      refine own_by (fun t k => XS.iloadN X0.here hx rfl (hb hby own_d2_11) rfl k) ?_
      show own_Go p.tables e below K (s₁.setTop (mkF m 12 #[.val (.ref ra), .val (.ref rb), .val (.int (1 : Int32)), .val (.int (1 : Int32))] [(.int (1 : Int32)), (.ref ra)]))
      obtain ⟨cl44, Ar44, -, S44, M44, H44, -⟩ := id VA
      refine own_by (fun t k => X0.daload hx (j := (1 : Int32)) (v := (.double (FP.l2d a1.toInt64))) (by rw [e0]; exact Ar44.1) (State.isArrayOf_alike hZ.alike Ar44.2.1) Ar44.2.2 (inb_of S44 ⟨by decide, by decide⟩) (H44 1 (by rw [S44]; decide)) (g := (mkF m 12 #[.val (.ref ra), .val (.ref rb), .val (.int (1 : Int32)), .val (.int (1 : Int32))] [(.int (1 : Int32)), (.ref ra)])) rfl rfl (hb hby own_d2_12) t k) ?_
      show own_Go p.tables e below K (s₁.setTop (mkF m 13 #[.val (.ref ra), .val (.ref rb), .val (.int (1 : Int32)), .val (.int (1 : Int32))] [(.double (FP.l2d a1.toInt64))]))
      refine own_by (fun t k => XS.aloadN X0.here hx rfl (hb hby own_d2_13) rfl rfl k) ?_
      show own_Go p.tables e below K (s₁.setTop (mkF m 14 #[.val (.ref ra), .val (.ref rb), .val (.int (1 : Int32)), .val (.int (1 : Int32))] [(.ref rb), (.double (FP.l2d a1.toInt64))]))
      refine own_by (fun t k => XS.iloadN X0.here hx rfl (hb hby own_d2_14) rfl k) ?_
      show own_Go p.tables e below K (s₁.setTop (mkF m 15 #[.val (.ref ra), .val (.ref rb), .val (.int (1 : Int32)), .val (.int (1 : Int32))] [(.int (1 : Int32)), (.ref rb), (.double (FP.l2d a1.toInt64))]))
      obtain ⟨cl45, Ar45, -, S45, M45, H45, -⟩ := id VB
      refine own_by (fun t k => X0.daload hx (j := (1 : Int32)) (v := (.double (FP.l2d b1.toInt64))) (by rw [e0]; exact Ar45.1) (State.isArrayOf_alike hZ.alike Ar45.2.1) Ar45.2.2 (inb_of S45 ⟨by decide, by decide⟩) (H45 1 (by rw [S45]; decide)) (g := (mkF m 15 #[.val (.ref ra), .val (.ref rb), .val (.int (1 : Int32)), .val (.int (1 : Int32))] [(.int (1 : Int32)), (.ref rb), (.double (FP.l2d a1.toInt64))])) rfl rfl (hb hby own_d2_15) t k) ?_
      show own_Go p.tables e below K (s₁.setTop (mkF m 16 #[.val (.ref ra), .val (.ref rb), .val (.int (1 : Int32)), .val (.int (1 : Int32))] [(.double (FP.l2d b1.toInt64)), (.double (FP.l2d a1.toInt64))]))
      refine own_by (fun t k => XS.dcmpS X0.here hx rfl (hb hby own_d2_16) rfl (dcmpV_w (own_b53 _) (own_b53 _) _) k) ?_
      show own_Go p.tables e below K (s₁.setTop (mkF m 17 #[.val (.ref ra), .val (.ref rb), .val (.int (1 : Int32)), .val (.int (1 : Int32))] [(.int (lcmpW a1.toInt64 b1.toInt64))]))
      by_cases hc17 : b1.toInt64 < a1.toInt64
      · refine own_by (fun t k => XS.ifNo X0.here hx rfl (hb hby own_d2_17) rfl (own_lgt hc17).2 k) ?_
        show own_Go p.tables e below K (s₁.setTop (mkF m 20 #[.val (.ref ra), .val (.ref rb), .val (.int (1 : Int32)), .val (.int (1 : Int32))] []))
        refine own_by (fun t k => XS.iconst X0.here hx rfl (hb hby own_d2_20) k) ?_
        show own_Go p.tables e below K (s₁.setTop (mkF m 21 #[.val (.ref ra), .val (.ref rb), .val (.int (1 : Int32)), .val (.int (1 : Int32))] [(.int (0 : Int32))]))
        exact own_retZ X0 hx (t := .boolean) hret (by simp) (hb hby own_d2_21) (hK (some (.int (0 : Int32))) X0 (fun h => by rw [hret] at h; cases h) ⟨by simp_all [own_dom3, own_i64], N0, e0⟩ (by decide) (by decide))
      · refine own_by (fun t k => XS.ifYes X0.here hx rfl (pc0 := 17) (pc' := 22) rfl (hb hby own_d2_17) rfl (own_lle hc17).2 (by decide) (by decide) k) ?_
        show own_Go p.tables e below K (s₁.setTop (mkF m 22 #[.val (.ref ra), .val (.ref rb), .val (.int (1 : Int32)), .val (.int (1 : Int32))] []))
        refine own_by (fun t k => XS.iloadN X0.here hx rfl (hb hby own_d2_22) rfl k) ?_
        show own_Go p.tables e below K (s₁.setTop (mkF m 23 #[.val (.ref ra), .val (.ref rb), .val (.int (1 : Int32)), .val (.int (1 : Int32))] [(.int (1 : Int32))]))
        refine own_by (fun t k => XS.aloadN X0.here hx rfl (hb hby own_d2_23) rfl rfl k) ?_
        show own_Go p.tables e below K (s₁.setTop (mkF m 24 #[.val (.ref ra), .val (.ref rb), .val (.int (1 : Int32)), .val (.int (1 : Int32))] [(.ref ra), (.int (1 : Int32))]))
        refine own_by (fun t k => XS.iloadN X0.here hx rfl (hb hby own_d2_24) rfl k) ?_
        show own_Go p.tables e below K (s₁.setTop (mkF m 25 #[.val (.ref ra), .val (.ref rb), .val (.int (1 : Int32)), .val (.int (1 : Int32))] [(.int (1 : Int32)), (.ref ra), (.int (1 : Int32))]))
        obtain ⟨cl46, Ar46, -, S46, M46, H46, -⟩ := id VA
        refine own_by (fun t k => X0.daload hx (j := (1 : Int32)) (v := (.double (FP.l2d a1.toInt64))) (by rw [e0]; exact Ar46.1) (State.isArrayOf_alike hZ.alike Ar46.2.1) Ar46.2.2 (inb_of S46 ⟨by decide, by decide⟩) (H46 1 (by rw [S46]; decide)) (g := (mkF m 25 #[.val (.ref ra), .val (.ref rb), .val (.int (1 : Int32)), .val (.int (1 : Int32))] [(.int (1 : Int32)), (.ref ra), (.int (1 : Int32))])) rfl rfl (hb hby own_d2_25) t k) ?_
        show own_Go p.tables e below K (s₁.setTop (mkF m 26 #[.val (.ref ra), .val (.ref rb), .val (.int (1 : Int32)), .val (.int (1 : Int32))] [(.double (FP.l2d a1.toInt64)), (.int (1 : Int32))]))
        refine own_by (fun t k => XS.aloadN X0.here hx rfl (hb hby own_d2_26) rfl rfl k) ?_
        show own_Go p.tables e below K (s₁.setTop (mkF m 27 #[.val (.ref ra), .val (.ref rb), .val (.int (1 : Int32)), .val (.int (1 : Int32))] [(.ref rb), (.double (FP.l2d a1.toInt64)), (.int (1 : Int32))]))
        refine own_by (fun t k => XS.iloadN X0.here hx rfl (hb hby own_d2_27) rfl k) ?_
        show own_Go p.tables e below K (s₁.setTop (mkF m 28 #[.val (.ref ra), .val (.ref rb), .val (.int (1 : Int32)), .val (.int (1 : Int32))] [(.int (1 : Int32)), (.ref rb), (.double (FP.l2d a1.toInt64)), (.int (1 : Int32))]))
        obtain ⟨cl47, Ar47, -, S47, M47, H47, -⟩ := id VB
        refine own_by (fun t k => X0.daload hx (j := (1 : Int32)) (v := (.double (FP.l2d b1.toInt64))) (by rw [e0]; exact Ar47.1) (State.isArrayOf_alike hZ.alike Ar47.2.1) Ar47.2.2 (inb_of S47 ⟨by decide, by decide⟩) (H47 1 (by rw [S47]; decide)) (g := (mkF m 28 #[.val (.ref ra), .val (.ref rb), .val (.int (1 : Int32)), .val (.int (1 : Int32))] [(.int (1 : Int32)), (.ref rb), (.double (FP.l2d a1.toInt64)), (.int (1 : Int32))])) rfl rfl (hb hby own_d2_28) t k) ?_
        show own_Go p.tables e below K (s₁.setTop (mkF m 29 #[.val (.ref ra), .val (.ref rb), .val (.int (1 : Int32)), .val (.int (1 : Int32))] [(.double (FP.l2d b1.toInt64)), (.double (FP.l2d a1.toInt64)), (.int (1 : Int32))]))
        refine own_by (fun t k => XS.dcmpS X0.here hx rfl (hb hby own_d2_29) rfl (dcmpV_w (own_b53 _) (own_b53 _) _) k) ?_
        show own_Go p.tables e below K (s₁.setTop (mkF m 30 #[.val (.ref ra), .val (.ref rb), .val (.int (1 : Int32)), .val (.int (1 : Int32))] [(.int (lcmpW a1.toInt64 b1.toInt64)), (.int (1 : Int32))]))
        by_cases hc30 : a1.toInt64 < b1.toInt64
        · refine own_by (fun t k => XS.ifNo X0.here hx rfl (hb hby own_d2_30) rfl (own_llt hc30).2 k) ?_
          show own_Go p.tables e below K (s₁.setTop (mkF m 33 #[.val (.ref ra), .val (.ref rb), .val (.int (1 : Int32)), .val (.int (1 : Int32))] [(.int (1 : Int32))]))
          refine own_by (fun t k => XS.iconst X0.here hx rfl (hb hby own_d2_33) k) ?_
          show own_Go p.tables e below K (s₁.setTop (mkF m 34 #[.val (.ref ra), .val (.ref rb), .val (.int (1 : Int32)), .val (.int (1 : Int32))] [(.int (1 : Int32)), (.int (1 : Int32))]))
          refine own_by (fun t k => XS.goto X0.here hx rfl (pc0 := 34) (pc' := 38) rfl (hb hby own_d2_34) (by decide) (by decide) k) ?_
          show own_Go p.tables e below K (s₁.setTop (mkF m 38 #[.val (.ref ra), .val (.ref rb), .val (.int (1 : Int32)), .val (.int (1 : Int32))] [(.int (1 : Int32)), (.int (1 : Int32))]))
          refine own_by (fun t k => XS.ior X0.here hx rfl (hb hby own_d2_38) rfl k) ?_
          show own_Go p.tables e below K (s₁.setTop (mkF m 39 #[.val (.ref ra), .val (.ref rb), .val (.int (1 : Int32)), .val (.int (1 : Int32))] [(.int (1 : Int32))]))
          refine own_by (fun t k => XS.istoreN X0.here hx rfl (hb hby own_d2_39) rfl (l' := #[.val (.ref ra), .val (.ref rb), .val (.int (1 : Int32)), .val (.int (1 : Int32))]) rfl k) ?_
          show own_Go p.tables e below K (s₁.setTop (mkF m 40 #[.val (.ref ra), .val (.ref rb), .val (.int (1 : Int32)), .val (.int (1 : Int32))] []))
          refine own_by (fun t k => XS.iinc X0.here hx rfl (hb hby own_d2_40) rfl (l' := #[.val (.ref ra), .val (.ref rb), .val (.int (1 : Int32)), .val (.int (2 : Int32))]) rfl k) ?_
          show own_Go p.tables e below K (s₁.setTop (mkF m 43 #[.val (.ref ra), .val (.ref rb), .val (.int (1 : Int32)), .val (.int (2 : Int32))] []))
          refine own_by (fun t k => XS.goto X0.here hx rfl (pc0 := 43) (pc' := 4) rfl (hb hby own_d2_43) (by decide) (by decide) k) ?_
          show own_Go p.tables e below K (s₁.setTop (mkF m 4 #[.val (.ref ra), .val (.ref rb), .val (.int (1 : Int32)), .val (.int (2 : Int32))] []))
          refine own_by (fun t k => XS.iloadN X0.here hx rfl (hb hby own_d2_4) rfl k) ?_
          show own_Go p.tables e below K (s₁.setTop (mkF m 5 #[.val (.ref ra), .val (.ref rb), .val (.int (1 : Int32)), .val (.int (2 : Int32))] [(.int (2 : Int32))]))
          refine own_by (fun t k => XS.aloadN X0.here hx rfl (hb hby own_d2_5) rfl rfl k) ?_
          show own_Go p.tables e below K (s₁.setTop (mkF m 6 #[.val (.ref ra), .val (.ref rb), .val (.int (1 : Int32)), .val (.int (2 : Int32))] [(.ref ra), (.int (2 : Int32))]))
          obtain ⟨cl48, Ar48, -, S48, M48, -, -⟩ := id VA
          refine own_by (fun t k => X0.arraylength hx (by rw [e0]; exact Ar48.1) (State.isArrayOf_alike hZ.alike Ar48.2.1) (g := (mkF m 6 #[.val (.ref ra), .val (.ref rb), .val (.int (1 : Int32)), .val (.int (2 : Int32))] [(.ref ra), (.int (2 : Int32))])) rfl rfl (hb hby own_d2_6) t k) ?_
          rw [len_of S48 M48]
          show own_Go p.tables e below K (s₁.setTop (mkF m 7 #[.val (.ref ra), .val (.ref rb), .val (.int (1 : Int32)), .val (.int (2 : Int32))] [(.int (3 : Int32)), (.int (2 : Int32))]))
          have hc7 : (2 : Int32) < (3 : Int32) := by decide
          refine own_by (fun t k => XS.icmpNo X0.here hx rfl (hb hby own_d2_7) rfl (tlt hc7).2.1 k) ?_
          show own_Go p.tables e below K (s₁.setTop (mkF m 10 #[.val (.ref ra), .val (.ref rb), .val (.int (1 : Int32)), .val (.int (2 : Int32))] []))
          refine own_by (fun t k => XS.aloadN X0.here hx rfl (hb hby own_d2_10) rfl rfl k) ?_
          show own_Go p.tables e below K (s₁.setTop (mkF m 11 #[.val (.ref ra), .val (.ref rb), .val (.int (1 : Int32)), .val (.int (2 : Int32))] [(.ref ra)]))
          refine own_by (fun t k => XS.iloadN X0.here hx rfl (hb hby own_d2_11) rfl k) ?_
          show own_Go p.tables e below K (s₁.setTop (mkF m 12 #[.val (.ref ra), .val (.ref rb), .val (.int (1 : Int32)), .val (.int (2 : Int32))] [(.int (2 : Int32)), (.ref ra)]))
          obtain ⟨cl49, Ar49, -, S49, M49, H49, -⟩ := id VA
          refine own_by (fun t k => X0.daload hx (j := (2 : Int32)) (v := (.double (FP.l2d a2.toInt64))) (by rw [e0]; exact Ar49.1) (State.isArrayOf_alike hZ.alike Ar49.2.1) Ar49.2.2 (inb_of S49 ⟨by decide, by decide⟩) (H49 2 (by rw [S49]; decide)) (g := (mkF m 12 #[.val (.ref ra), .val (.ref rb), .val (.int (1 : Int32)), .val (.int (2 : Int32))] [(.int (2 : Int32)), (.ref ra)])) rfl rfl (hb hby own_d2_12) t k) ?_
          show own_Go p.tables e below K (s₁.setTop (mkF m 13 #[.val (.ref ra), .val (.ref rb), .val (.int (1 : Int32)), .val (.int (2 : Int32))] [(.double (FP.l2d a2.toInt64))]))
          refine own_by (fun t k => XS.aloadN X0.here hx rfl (hb hby own_d2_13) rfl rfl k) ?_
          show own_Go p.tables e below K (s₁.setTop (mkF m 14 #[.val (.ref ra), .val (.ref rb), .val (.int (1 : Int32)), .val (.int (2 : Int32))] [(.ref rb), (.double (FP.l2d a2.toInt64))]))
          refine own_by (fun t k => XS.iloadN X0.here hx rfl (hb hby own_d2_14) rfl k) ?_
          show own_Go p.tables e below K (s₁.setTop (mkF m 15 #[.val (.ref ra), .val (.ref rb), .val (.int (1 : Int32)), .val (.int (2 : Int32))] [(.int (2 : Int32)), (.ref rb), (.double (FP.l2d a2.toInt64))]))
          obtain ⟨cl50, Ar50, -, S50, M50, H50, -⟩ := id VB
          refine own_by (fun t k => X0.daload hx (j := (2 : Int32)) (v := (.double (FP.l2d b2.toInt64))) (by rw [e0]; exact Ar50.1) (State.isArrayOf_alike hZ.alike Ar50.2.1) Ar50.2.2 (inb_of S50 ⟨by decide, by decide⟩) (H50 2 (by rw [S50]; decide)) (g := (mkF m 15 #[.val (.ref ra), .val (.ref rb), .val (.int (1 : Int32)), .val (.int (2 : Int32))] [(.int (2 : Int32)), (.ref rb), (.double (FP.l2d a2.toInt64))])) rfl rfl (hb hby own_d2_15) t k) ?_
          show own_Go p.tables e below K (s₁.setTop (mkF m 16 #[.val (.ref ra), .val (.ref rb), .val (.int (1 : Int32)), .val (.int (2 : Int32))] [(.double (FP.l2d b2.toInt64)), (.double (FP.l2d a2.toInt64))]))
          refine own_by (fun t k => XS.dcmpS X0.here hx rfl (hb hby own_d2_16) rfl (dcmpV_w (own_b53 _) (own_b53 _) _) k) ?_
          show own_Go p.tables e below K (s₁.setTop (mkF m 17 #[.val (.ref ra), .val (.ref rb), .val (.int (1 : Int32)), .val (.int (2 : Int32))] [(.int (lcmpW a2.toInt64 b2.toInt64))]))
          by_cases hc17 : b2.toInt64 < a2.toInt64
          · refine own_by (fun t k => XS.ifNo X0.here hx rfl (hb hby own_d2_17) rfl (own_lgt hc17).2 k) ?_
            show own_Go p.tables e below K (s₁.setTop (mkF m 20 #[.val (.ref ra), .val (.ref rb), .val (.int (1 : Int32)), .val (.int (2 : Int32))] []))
            refine own_by (fun t k => XS.iconst X0.here hx rfl (hb hby own_d2_20) k) ?_
            show own_Go p.tables e below K (s₁.setTop (mkF m 21 #[.val (.ref ra), .val (.ref rb), .val (.int (1 : Int32)), .val (.int (2 : Int32))] [(.int (0 : Int32))]))
            exact own_retZ X0 hx (t := .boolean) hret (by simp) (hb hby own_d2_21) (hK (some (.int (0 : Int32))) X0 (fun h => by rw [hret] at h; cases h) ⟨by simp_all [own_dom3, own_i64], N0, e0⟩ (by decide) (by decide))
          · refine own_by (fun t k => XS.ifYes X0.here hx rfl (pc0 := 17) (pc' := 22) rfl (hb hby own_d2_17) rfl (own_lle hc17).2 (by decide) (by decide) k) ?_
            show own_Go p.tables e below K (s₁.setTop (mkF m 22 #[.val (.ref ra), .val (.ref rb), .val (.int (1 : Int32)), .val (.int (2 : Int32))] []))
            refine own_by (fun t k => XS.iloadN X0.here hx rfl (hb hby own_d2_22) rfl k) ?_
            show own_Go p.tables e below K (s₁.setTop (mkF m 23 #[.val (.ref ra), .val (.ref rb), .val (.int (1 : Int32)), .val (.int (2 : Int32))] [(.int (1 : Int32))]))
            refine own_by (fun t k => XS.aloadN X0.here hx rfl (hb hby own_d2_23) rfl rfl k) ?_
            show own_Go p.tables e below K (s₁.setTop (mkF m 24 #[.val (.ref ra), .val (.ref rb), .val (.int (1 : Int32)), .val (.int (2 : Int32))] [(.ref ra), (.int (1 : Int32))]))
            refine own_by (fun t k => XS.iloadN X0.here hx rfl (hb hby own_d2_24) rfl k) ?_
            show own_Go p.tables e below K (s₁.setTop (mkF m 25 #[.val (.ref ra), .val (.ref rb), .val (.int (1 : Int32)), .val (.int (2 : Int32))] [(.int (2 : Int32)), (.ref ra), (.int (1 : Int32))]))
            obtain ⟨cl51, Ar51, -, S51, M51, H51, -⟩ := id VA
            refine own_by (fun t k => X0.daload hx (j := (2 : Int32)) (v := (.double (FP.l2d a2.toInt64))) (by rw [e0]; exact Ar51.1) (State.isArrayOf_alike hZ.alike Ar51.2.1) Ar51.2.2 (inb_of S51 ⟨by decide, by decide⟩) (H51 2 (by rw [S51]; decide)) (g := (mkF m 25 #[.val (.ref ra), .val (.ref rb), .val (.int (1 : Int32)), .val (.int (2 : Int32))] [(.int (2 : Int32)), (.ref ra), (.int (1 : Int32))])) rfl rfl (hb hby own_d2_25) t k) ?_
            show own_Go p.tables e below K (s₁.setTop (mkF m 26 #[.val (.ref ra), .val (.ref rb), .val (.int (1 : Int32)), .val (.int (2 : Int32))] [(.double (FP.l2d a2.toInt64)), (.int (1 : Int32))]))
            refine own_by (fun t k => XS.aloadN X0.here hx rfl (hb hby own_d2_26) rfl rfl k) ?_
            show own_Go p.tables e below K (s₁.setTop (mkF m 27 #[.val (.ref ra), .val (.ref rb), .val (.int (1 : Int32)), .val (.int (2 : Int32))] [(.ref rb), (.double (FP.l2d a2.toInt64)), (.int (1 : Int32))]))
            refine own_by (fun t k => XS.iloadN X0.here hx rfl (hb hby own_d2_27) rfl k) ?_
            show own_Go p.tables e below K (s₁.setTop (mkF m 28 #[.val (.ref ra), .val (.ref rb), .val (.int (1 : Int32)), .val (.int (2 : Int32))] [(.int (2 : Int32)), (.ref rb), (.double (FP.l2d a2.toInt64)), (.int (1 : Int32))]))
            obtain ⟨cl52, Ar52, -, S52, M52, H52, -⟩ := id VB
            refine own_by (fun t k => X0.daload hx (j := (2 : Int32)) (v := (.double (FP.l2d b2.toInt64))) (by rw [e0]; exact Ar52.1) (State.isArrayOf_alike hZ.alike Ar52.2.1) Ar52.2.2 (inb_of S52 ⟨by decide, by decide⟩) (H52 2 (by rw [S52]; decide)) (g := (mkF m 28 #[.val (.ref ra), .val (.ref rb), .val (.int (1 : Int32)), .val (.int (2 : Int32))] [(.int (2 : Int32)), (.ref rb), (.double (FP.l2d a2.toInt64)), (.int (1 : Int32))])) rfl rfl (hb hby own_d2_28) t k) ?_
            show own_Go p.tables e below K (s₁.setTop (mkF m 29 #[.val (.ref ra), .val (.ref rb), .val (.int (1 : Int32)), .val (.int (2 : Int32))] [(.double (FP.l2d b2.toInt64)), (.double (FP.l2d a2.toInt64)), (.int (1 : Int32))]))
            refine own_by (fun t k => XS.dcmpS X0.here hx rfl (hb hby own_d2_29) rfl (dcmpV_w (own_b53 _) (own_b53 _) _) k) ?_
            show own_Go p.tables e below K (s₁.setTop (mkF m 30 #[.val (.ref ra), .val (.ref rb), .val (.int (1 : Int32)), .val (.int (2 : Int32))] [(.int (lcmpW a2.toInt64 b2.toInt64)), (.int (1 : Int32))]))
            by_cases hc30 : a2.toInt64 < b2.toInt64
            · refine own_by (fun t k => XS.ifNo X0.here hx rfl (hb hby own_d2_30) rfl (own_llt hc30).2 k) ?_
              show own_Go p.tables e below K (s₁.setTop (mkF m 33 #[.val (.ref ra), .val (.ref rb), .val (.int (1 : Int32)), .val (.int (2 : Int32))] [(.int (1 : Int32))]))
              refine own_by (fun t k => XS.iconst X0.here hx rfl (hb hby own_d2_33) k) ?_
              show own_Go p.tables e below K (s₁.setTop (mkF m 34 #[.val (.ref ra), .val (.ref rb), .val (.int (1 : Int32)), .val (.int (2 : Int32))] [(.int (1 : Int32)), (.int (1 : Int32))]))
              refine own_by (fun t k => XS.goto X0.here hx rfl (pc0 := 34) (pc' := 38) rfl (hb hby own_d2_34) (by decide) (by decide) k) ?_
              show own_Go p.tables e below K (s₁.setTop (mkF m 38 #[.val (.ref ra), .val (.ref rb), .val (.int (1 : Int32)), .val (.int (2 : Int32))] [(.int (1 : Int32)), (.int (1 : Int32))]))
              refine own_by (fun t k => XS.ior X0.here hx rfl (hb hby own_d2_38) rfl k) ?_
              show own_Go p.tables e below K (s₁.setTop (mkF m 39 #[.val (.ref ra), .val (.ref rb), .val (.int (1 : Int32)), .val (.int (2 : Int32))] [(.int (1 : Int32))]))
              refine own_by (fun t k => XS.istoreN X0.here hx rfl (hb hby own_d2_39) rfl (l' := #[.val (.ref ra), .val (.ref rb), .val (.int (1 : Int32)), .val (.int (2 : Int32))]) rfl k) ?_
              show own_Go p.tables e below K (s₁.setTop (mkF m 40 #[.val (.ref ra), .val (.ref rb), .val (.int (1 : Int32)), .val (.int (2 : Int32))] []))
              refine own_by (fun t k => XS.iinc X0.here hx rfl (hb hby own_d2_40) rfl (l' := #[.val (.ref ra), .val (.ref rb), .val (.int (1 : Int32)), .val (.int (3 : Int32))]) rfl k) ?_
              show own_Go p.tables e below K (s₁.setTop (mkF m 43 #[.val (.ref ra), .val (.ref rb), .val (.int (1 : Int32)), .val (.int (3 : Int32))] []))
              refine own_by (fun t k => XS.goto X0.here hx rfl (pc0 := 43) (pc' := 4) rfl (hb hby own_d2_43) (by decide) (by decide) k) ?_
              show own_Go p.tables e below K (s₁.setTop (mkF m 4 #[.val (.ref ra), .val (.ref rb), .val (.int (1 : Int32)), .val (.int (3 : Int32))] []))
              refine own_by (fun t k => XS.iloadN X0.here hx rfl (hb hby own_d2_4) rfl k) ?_
              show own_Go p.tables e below K (s₁.setTop (mkF m 5 #[.val (.ref ra), .val (.ref rb), .val (.int (1 : Int32)), .val (.int (3 : Int32))] [(.int (3 : Int32))]))
              refine own_by (fun t k => XS.aloadN X0.here hx rfl (hb hby own_d2_5) rfl rfl k) ?_
              show own_Go p.tables e below K (s₁.setTop (mkF m 6 #[.val (.ref ra), .val (.ref rb), .val (.int (1 : Int32)), .val (.int (3 : Int32))] [(.ref ra), (.int (3 : Int32))]))
              obtain ⟨cl53, Ar53, -, S53, M53, -, -⟩ := id VA
              refine own_by (fun t k => X0.arraylength hx (by rw [e0]; exact Ar53.1) (State.isArrayOf_alike hZ.alike Ar53.2.1) (g := (mkF m 6 #[.val (.ref ra), .val (.ref rb), .val (.int (1 : Int32)), .val (.int (3 : Int32))] [(.ref ra), (.int (3 : Int32))])) rfl rfl (hb hby own_d2_6) t k) ?_
              rw [len_of S53 M53]
              show own_Go p.tables e below K (s₁.setTop (mkF m 7 #[.val (.ref ra), .val (.ref rb), .val (.int (1 : Int32)), .val (.int (3 : Int32))] [(.int (3 : Int32)), (.int (3 : Int32))]))
              have hc7 : ¬ ((3 : Int32) < (3 : Int32)) := by decide
              refine own_by (fun t k => XS.icmpYes X0.here hx rfl (pc0 := 7) (pc' := 46) rfl (hb hby own_d2_7) rfl (flt hc7).2.1 (by decide) (by decide) k) ?_
              show own_Go p.tables e below K (s₁.setTop (mkF m 46 #[.val (.ref ra), .val (.ref rb), .val (.int (1 : Int32)), .val (.int (3 : Int32))] []))
              refine own_by (fun t k => XS.iloadN X0.here hx rfl (hb hby own_d2_46) rfl k) ?_
              show own_Go p.tables e below K (s₁.setTop (mkF m 47 #[.val (.ref ra), .val (.ref rb), .val (.int (1 : Int32)), .val (.int (3 : Int32))] [(.int (1 : Int32))]))
              exact own_retZ X0 hx (t := .boolean) hret (by simp) (hb hby own_d2_47) (hK (some (.int (1 : Int32))) X0 (fun h => by rw [hret] at h; cases h) ⟨by simp_all [own_dom3, own_i64], N0, e0⟩ (by decide) (by decide))
            · refine own_by (fun t k => XS.ifYes X0.here hx rfl (pc0 := 30) (pc' := 37) rfl (hb hby own_d2_30) rfl (own_lge hc30).2 (by decide) (by decide) k) ?_
              show own_Go p.tables e below K (s₁.setTop (mkF m 37 #[.val (.ref ra), .val (.ref rb), .val (.int (1 : Int32)), .val (.int (2 : Int32))] [(.int (1 : Int32))]))
              refine own_by (fun t k => XS.iconst X0.here hx rfl (hb hby own_d2_37) k) ?_
              show own_Go p.tables e below K (s₁.setTop (mkF m 38 #[.val (.ref ra), .val (.ref rb), .val (.int (1 : Int32)), .val (.int (2 : Int32))] [(.int (0 : Int32)), (.int (1 : Int32))]))
              refine own_by (fun t k => XS.ior X0.here hx rfl (hb hby own_d2_38) rfl k) ?_
              show own_Go p.tables e below K (s₁.setTop (mkF m 39 #[.val (.ref ra), .val (.ref rb), .val (.int (1 : Int32)), .val (.int (2 : Int32))] [(.int (1 : Int32))]))
              refine own_by (fun t k => XS.istoreN X0.here hx rfl (hb hby own_d2_39) rfl (l' := #[.val (.ref ra), .val (.ref rb), .val (.int (1 : Int32)), .val (.int (2 : Int32))]) rfl k) ?_
              show own_Go p.tables e below K (s₁.setTop (mkF m 40 #[.val (.ref ra), .val (.ref rb), .val (.int (1 : Int32)), .val (.int (2 : Int32))] []))
              refine own_by (fun t k => XS.iinc X0.here hx rfl (hb hby own_d2_40) rfl (l' := #[.val (.ref ra), .val (.ref rb), .val (.int (1 : Int32)), .val (.int (3 : Int32))]) rfl k) ?_
              show own_Go p.tables e below K (s₁.setTop (mkF m 43 #[.val (.ref ra), .val (.ref rb), .val (.int (1 : Int32)), .val (.int (3 : Int32))] []))
              refine own_by (fun t k => XS.goto X0.here hx rfl (pc0 := 43) (pc' := 4) rfl (hb hby own_d2_43) (by decide) (by decide) k) ?_
              show own_Go p.tables e below K (s₁.setTop (mkF m 4 #[.val (.ref ra), .val (.ref rb), .val (.int (1 : Int32)), .val (.int (3 : Int32))] []))
              refine own_by (fun t k => XS.iloadN X0.here hx rfl (hb hby own_d2_4) rfl k) ?_
              show own_Go p.tables e below K (s₁.setTop (mkF m 5 #[.val (.ref ra), .val (.ref rb), .val (.int (1 : Int32)), .val (.int (3 : Int32))] [(.int (3 : Int32))]))
              refine own_by (fun t k => XS.aloadN X0.here hx rfl (hb hby own_d2_5) rfl rfl k) ?_
              show own_Go p.tables e below K (s₁.setTop (mkF m 6 #[.val (.ref ra), .val (.ref rb), .val (.int (1 : Int32)), .val (.int (3 : Int32))] [(.ref ra), (.int (3 : Int32))]))
              obtain ⟨cl54, Ar54, -, S54, M54, -, -⟩ := id VA
              refine own_by (fun t k => X0.arraylength hx (by rw [e0]; exact Ar54.1) (State.isArrayOf_alike hZ.alike Ar54.2.1) (g := (mkF m 6 #[.val (.ref ra), .val (.ref rb), .val (.int (1 : Int32)), .val (.int (3 : Int32))] [(.ref ra), (.int (3 : Int32))])) rfl rfl (hb hby own_d2_6) t k) ?_
              rw [len_of S54 M54]
              show own_Go p.tables e below K (s₁.setTop (mkF m 7 #[.val (.ref ra), .val (.ref rb), .val (.int (1 : Int32)), .val (.int (3 : Int32))] [(.int (3 : Int32)), (.int (3 : Int32))]))
              have hc7 : ¬ ((3 : Int32) < (3 : Int32)) := by decide
              refine own_by (fun t k => XS.icmpYes X0.here hx rfl (pc0 := 7) (pc' := 46) rfl (hb hby own_d2_7) rfl (flt hc7).2.1 (by decide) (by decide) k) ?_
              show own_Go p.tables e below K (s₁.setTop (mkF m 46 #[.val (.ref ra), .val (.ref rb), .val (.int (1 : Int32)), .val (.int (3 : Int32))] []))
              refine own_by (fun t k => XS.iloadN X0.here hx rfl (hb hby own_d2_46) rfl k) ?_
              show own_Go p.tables e below K (s₁.setTop (mkF m 47 #[.val (.ref ra), .val (.ref rb), .val (.int (1 : Int32)), .val (.int (3 : Int32))] [(.int (1 : Int32))]))
              exact own_retZ X0 hx (t := .boolean) hret (by simp) (hb hby own_d2_47) (hK (some (.int (1 : Int32))) X0 (fun h => by rw [hret] at h; cases h) ⟨by simp_all [own_dom3, own_i64], N0, e0⟩ (by decide) (by decide))
        · refine own_by (fun t k => XS.ifYes X0.here hx rfl (pc0 := 30) (pc' := 37) rfl (hb hby own_d2_30) rfl (own_lge hc30).2 (by decide) (by decide) k) ?_
          show own_Go p.tables e below K (s₁.setTop (mkF m 37 #[.val (.ref ra), .val (.ref rb), .val (.int (1 : Int32)), .val (.int (1 : Int32))] [(.int (1 : Int32))]))
          refine own_by (fun t k => XS.iconst X0.here hx rfl (hb hby own_d2_37) k) ?_
          show own_Go p.tables e below K (s₁.setTop (mkF m 38 #[.val (.ref ra), .val (.ref rb), .val (.int (1 : Int32)), .val (.int (1 : Int32))] [(.int (0 : Int32)), (.int (1 : Int32))]))
          refine own_by (fun t k => XS.ior X0.here hx rfl (hb hby own_d2_38) rfl k) ?_
          show own_Go p.tables e below K (s₁.setTop (mkF m 39 #[.val (.ref ra), .val (.ref rb), .val (.int (1 : Int32)), .val (.int (1 : Int32))] [(.int (1 : Int32))]))
          refine own_by (fun t k => XS.istoreN X0.here hx rfl (hb hby own_d2_39) rfl (l' := #[.val (.ref ra), .val (.ref rb), .val (.int (1 : Int32)), .val (.int (1 : Int32))]) rfl k) ?_
          show own_Go p.tables e below K (s₁.setTop (mkF m 40 #[.val (.ref ra), .val (.ref rb), .val (.int (1 : Int32)), .val (.int (1 : Int32))] []))
          refine own_by (fun t k => XS.iinc X0.here hx rfl (hb hby own_d2_40) rfl (l' := #[.val (.ref ra), .val (.ref rb), .val (.int (1 : Int32)), .val (.int (2 : Int32))]) rfl k) ?_
          show own_Go p.tables e below K (s₁.setTop (mkF m 43 #[.val (.ref ra), .val (.ref rb), .val (.int (1 : Int32)), .val (.int (2 : Int32))] []))
          refine own_by (fun t k => XS.goto X0.here hx rfl (pc0 := 43) (pc' := 4) rfl (hb hby own_d2_43) (by decide) (by decide) k) ?_
          show own_Go p.tables e below K (s₁.setTop (mkF m 4 #[.val (.ref ra), .val (.ref rb), .val (.int (1 : Int32)), .val (.int (2 : Int32))] []))
          refine own_by (fun t k => XS.iloadN X0.here hx rfl (hb hby own_d2_4) rfl k) ?_
          show own_Go p.tables e below K (s₁.setTop (mkF m 5 #[.val (.ref ra), .val (.ref rb), .val (.int (1 : Int32)), .val (.int (2 : Int32))] [(.int (2 : Int32))]))
          refine own_by (fun t k => XS.aloadN X0.here hx rfl (hb hby own_d2_5) rfl rfl k) ?_
          show own_Go p.tables e below K (s₁.setTop (mkF m 6 #[.val (.ref ra), .val (.ref rb), .val (.int (1 : Int32)), .val (.int (2 : Int32))] [(.ref ra), (.int (2 : Int32))]))
          obtain ⟨cl55, Ar55, -, S55, M55, -, -⟩ := id VA
          refine own_by (fun t k => X0.arraylength hx (by rw [e0]; exact Ar55.1) (State.isArrayOf_alike hZ.alike Ar55.2.1) (g := (mkF m 6 #[.val (.ref ra), .val (.ref rb), .val (.int (1 : Int32)), .val (.int (2 : Int32))] [(.ref ra), (.int (2 : Int32))])) rfl rfl (hb hby own_d2_6) t k) ?_
          rw [len_of S55 M55]
          show own_Go p.tables e below K (s₁.setTop (mkF m 7 #[.val (.ref ra), .val (.ref rb), .val (.int (1 : Int32)), .val (.int (2 : Int32))] [(.int (3 : Int32)), (.int (2 : Int32))]))
          have hc7 : (2 : Int32) < (3 : Int32) := by decide
          refine own_by (fun t k => XS.icmpNo X0.here hx rfl (hb hby own_d2_7) rfl (tlt hc7).2.1 k) ?_
          show own_Go p.tables e below K (s₁.setTop (mkF m 10 #[.val (.ref ra), .val (.ref rb), .val (.int (1 : Int32)), .val (.int (2 : Int32))] []))
          refine own_by (fun t k => XS.aloadN X0.here hx rfl (hb hby own_d2_10) rfl rfl k) ?_
          show own_Go p.tables e below K (s₁.setTop (mkF m 11 #[.val (.ref ra), .val (.ref rb), .val (.int (1 : Int32)), .val (.int (2 : Int32))] [(.ref ra)]))
          refine own_by (fun t k => XS.iloadN X0.here hx rfl (hb hby own_d2_11) rfl k) ?_
          show own_Go p.tables e below K (s₁.setTop (mkF m 12 #[.val (.ref ra), .val (.ref rb), .val (.int (1 : Int32)), .val (.int (2 : Int32))] [(.int (2 : Int32)), (.ref ra)]))
          obtain ⟨cl56, Ar56, -, S56, M56, H56, -⟩ := id VA
          refine own_by (fun t k => X0.daload hx (j := (2 : Int32)) (v := (.double (FP.l2d a2.toInt64))) (by rw [e0]; exact Ar56.1) (State.isArrayOf_alike hZ.alike Ar56.2.1) Ar56.2.2 (inb_of S56 ⟨by decide, by decide⟩) (H56 2 (by rw [S56]; decide)) (g := (mkF m 12 #[.val (.ref ra), .val (.ref rb), .val (.int (1 : Int32)), .val (.int (2 : Int32))] [(.int (2 : Int32)), (.ref ra)])) rfl rfl (hb hby own_d2_12) t k) ?_
          show own_Go p.tables e below K (s₁.setTop (mkF m 13 #[.val (.ref ra), .val (.ref rb), .val (.int (1 : Int32)), .val (.int (2 : Int32))] [(.double (FP.l2d a2.toInt64))]))
          refine own_by (fun t k => XS.aloadN X0.here hx rfl (hb hby own_d2_13) rfl rfl k) ?_
          show own_Go p.tables e below K (s₁.setTop (mkF m 14 #[.val (.ref ra), .val (.ref rb), .val (.int (1 : Int32)), .val (.int (2 : Int32))] [(.ref rb), (.double (FP.l2d a2.toInt64))]))
          refine own_by (fun t k => XS.iloadN X0.here hx rfl (hb hby own_d2_14) rfl k) ?_
          show own_Go p.tables e below K (s₁.setTop (mkF m 15 #[.val (.ref ra), .val (.ref rb), .val (.int (1 : Int32)), .val (.int (2 : Int32))] [(.int (2 : Int32)), (.ref rb), (.double (FP.l2d a2.toInt64))]))
          obtain ⟨cl57, Ar57, -, S57, M57, H57, -⟩ := id VB
          refine own_by (fun t k => X0.daload hx (j := (2 : Int32)) (v := (.double (FP.l2d b2.toInt64))) (by rw [e0]; exact Ar57.1) (State.isArrayOf_alike hZ.alike Ar57.2.1) Ar57.2.2 (inb_of S57 ⟨by decide, by decide⟩) (H57 2 (by rw [S57]; decide)) (g := (mkF m 15 #[.val (.ref ra), .val (.ref rb), .val (.int (1 : Int32)), .val (.int (2 : Int32))] [(.int (2 : Int32)), (.ref rb), (.double (FP.l2d a2.toInt64))])) rfl rfl (hb hby own_d2_15) t k) ?_
          show own_Go p.tables e below K (s₁.setTop (mkF m 16 #[.val (.ref ra), .val (.ref rb), .val (.int (1 : Int32)), .val (.int (2 : Int32))] [(.double (FP.l2d b2.toInt64)), (.double (FP.l2d a2.toInt64))]))
          refine own_by (fun t k => XS.dcmpS X0.here hx rfl (hb hby own_d2_16) rfl (dcmpV_w (own_b53 _) (own_b53 _) _) k) ?_
          show own_Go p.tables e below K (s₁.setTop (mkF m 17 #[.val (.ref ra), .val (.ref rb), .val (.int (1 : Int32)), .val (.int (2 : Int32))] [(.int (lcmpW a2.toInt64 b2.toInt64))]))
          by_cases hc17 : b2.toInt64 < a2.toInt64
          · refine own_by (fun t k => XS.ifNo X0.here hx rfl (hb hby own_d2_17) rfl (own_lgt hc17).2 k) ?_
            show own_Go p.tables e below K (s₁.setTop (mkF m 20 #[.val (.ref ra), .val (.ref rb), .val (.int (1 : Int32)), .val (.int (2 : Int32))] []))
            refine own_by (fun t k => XS.iconst X0.here hx rfl (hb hby own_d2_20) k) ?_
            show own_Go p.tables e below K (s₁.setTop (mkF m 21 #[.val (.ref ra), .val (.ref rb), .val (.int (1 : Int32)), .val (.int (2 : Int32))] [(.int (0 : Int32))]))
            exact own_retZ X0 hx (t := .boolean) hret (by simp) (hb hby own_d2_21) (hK (some (.int (0 : Int32))) X0 (fun h => by rw [hret] at h; cases h) ⟨by simp_all [own_dom3, own_i64], N0, e0⟩ (by decide) (by decide))
          · refine own_by (fun t k => XS.ifYes X0.here hx rfl (pc0 := 17) (pc' := 22) rfl (hb hby own_d2_17) rfl (own_lle hc17).2 (by decide) (by decide) k) ?_
            show own_Go p.tables e below K (s₁.setTop (mkF m 22 #[.val (.ref ra), .val (.ref rb), .val (.int (1 : Int32)), .val (.int (2 : Int32))] []))
            refine own_by (fun t k => XS.iloadN X0.here hx rfl (hb hby own_d2_22) rfl k) ?_
            show own_Go p.tables e below K (s₁.setTop (mkF m 23 #[.val (.ref ra), .val (.ref rb), .val (.int (1 : Int32)), .val (.int (2 : Int32))] [(.int (1 : Int32))]))
            refine own_by (fun t k => XS.aloadN X0.here hx rfl (hb hby own_d2_23) rfl rfl k) ?_
            show own_Go p.tables e below K (s₁.setTop (mkF m 24 #[.val (.ref ra), .val (.ref rb), .val (.int (1 : Int32)), .val (.int (2 : Int32))] [(.ref ra), (.int (1 : Int32))]))
            refine own_by (fun t k => XS.iloadN X0.here hx rfl (hb hby own_d2_24) rfl k) ?_
            show own_Go p.tables e below K (s₁.setTop (mkF m 25 #[.val (.ref ra), .val (.ref rb), .val (.int (1 : Int32)), .val (.int (2 : Int32))] [(.int (2 : Int32)), (.ref ra), (.int (1 : Int32))]))
            obtain ⟨cl58, Ar58, -, S58, M58, H58, -⟩ := id VA
            refine own_by (fun t k => X0.daload hx (j := (2 : Int32)) (v := (.double (FP.l2d a2.toInt64))) (by rw [e0]; exact Ar58.1) (State.isArrayOf_alike hZ.alike Ar58.2.1) Ar58.2.2 (inb_of S58 ⟨by decide, by decide⟩) (H58 2 (by rw [S58]; decide)) (g := (mkF m 25 #[.val (.ref ra), .val (.ref rb), .val (.int (1 : Int32)), .val (.int (2 : Int32))] [(.int (2 : Int32)), (.ref ra), (.int (1 : Int32))])) rfl rfl (hb hby own_d2_25) t k) ?_
            show own_Go p.tables e below K (s₁.setTop (mkF m 26 #[.val (.ref ra), .val (.ref rb), .val (.int (1 : Int32)), .val (.int (2 : Int32))] [(.double (FP.l2d a2.toInt64)), (.int (1 : Int32))]))
            refine own_by (fun t k => XS.aloadN X0.here hx rfl (hb hby own_d2_26) rfl rfl k) ?_
            show own_Go p.tables e below K (s₁.setTop (mkF m 27 #[.val (.ref ra), .val (.ref rb), .val (.int (1 : Int32)), .val (.int (2 : Int32))] [(.ref rb), (.double (FP.l2d a2.toInt64)), (.int (1 : Int32))]))
            refine own_by (fun t k => XS.iloadN X0.here hx rfl (hb hby own_d2_27) rfl k) ?_
            show own_Go p.tables e below K (s₁.setTop (mkF m 28 #[.val (.ref ra), .val (.ref rb), .val (.int (1 : Int32)), .val (.int (2 : Int32))] [(.int (2 : Int32)), (.ref rb), (.double (FP.l2d a2.toInt64)), (.int (1 : Int32))]))
            obtain ⟨cl59, Ar59, -, S59, M59, H59, -⟩ := id VB
            refine own_by (fun t k => X0.daload hx (j := (2 : Int32)) (v := (.double (FP.l2d b2.toInt64))) (by rw [e0]; exact Ar59.1) (State.isArrayOf_alike hZ.alike Ar59.2.1) Ar59.2.2 (inb_of S59 ⟨by decide, by decide⟩) (H59 2 (by rw [S59]; decide)) (g := (mkF m 28 #[.val (.ref ra), .val (.ref rb), .val (.int (1 : Int32)), .val (.int (2 : Int32))] [(.int (2 : Int32)), (.ref rb), (.double (FP.l2d a2.toInt64)), (.int (1 : Int32))])) rfl rfl (hb hby own_d2_28) t k) ?_
            show own_Go p.tables e below K (s₁.setTop (mkF m 29 #[.val (.ref ra), .val (.ref rb), .val (.int (1 : Int32)), .val (.int (2 : Int32))] [(.double (FP.l2d b2.toInt64)), (.double (FP.l2d a2.toInt64)), (.int (1 : Int32))]))
            refine own_by (fun t k => XS.dcmpS X0.here hx rfl (hb hby own_d2_29) rfl (dcmpV_w (own_b53 _) (own_b53 _) _) k) ?_
            show own_Go p.tables e below K (s₁.setTop (mkF m 30 #[.val (.ref ra), .val (.ref rb), .val (.int (1 : Int32)), .val (.int (2 : Int32))] [(.int (lcmpW a2.toInt64 b2.toInt64)), (.int (1 : Int32))]))
            by_cases hc30 : a2.toInt64 < b2.toInt64
            · refine own_by (fun t k => XS.ifNo X0.here hx rfl (hb hby own_d2_30) rfl (own_llt hc30).2 k) ?_
              show own_Go p.tables e below K (s₁.setTop (mkF m 33 #[.val (.ref ra), .val (.ref rb), .val (.int (1 : Int32)), .val (.int (2 : Int32))] [(.int (1 : Int32))]))
              refine own_by (fun t k => XS.iconst X0.here hx rfl (hb hby own_d2_33) k) ?_
              show own_Go p.tables e below K (s₁.setTop (mkF m 34 #[.val (.ref ra), .val (.ref rb), .val (.int (1 : Int32)), .val (.int (2 : Int32))] [(.int (1 : Int32)), (.int (1 : Int32))]))
              refine own_by (fun t k => XS.goto X0.here hx rfl (pc0 := 34) (pc' := 38) rfl (hb hby own_d2_34) (by decide) (by decide) k) ?_
              show own_Go p.tables e below K (s₁.setTop (mkF m 38 #[.val (.ref ra), .val (.ref rb), .val (.int (1 : Int32)), .val (.int (2 : Int32))] [(.int (1 : Int32)), (.int (1 : Int32))]))
              refine own_by (fun t k => XS.ior X0.here hx rfl (hb hby own_d2_38) rfl k) ?_
              show own_Go p.tables e below K (s₁.setTop (mkF m 39 #[.val (.ref ra), .val (.ref rb), .val (.int (1 : Int32)), .val (.int (2 : Int32))] [(.int (1 : Int32))]))
              refine own_by (fun t k => XS.istoreN X0.here hx rfl (hb hby own_d2_39) rfl (l' := #[.val (.ref ra), .val (.ref rb), .val (.int (1 : Int32)), .val (.int (2 : Int32))]) rfl k) ?_
              show own_Go p.tables e below K (s₁.setTop (mkF m 40 #[.val (.ref ra), .val (.ref rb), .val (.int (1 : Int32)), .val (.int (2 : Int32))] []))
              refine own_by (fun t k => XS.iinc X0.here hx rfl (hb hby own_d2_40) rfl (l' := #[.val (.ref ra), .val (.ref rb), .val (.int (1 : Int32)), .val (.int (3 : Int32))]) rfl k) ?_
              show own_Go p.tables e below K (s₁.setTop (mkF m 43 #[.val (.ref ra), .val (.ref rb), .val (.int (1 : Int32)), .val (.int (3 : Int32))] []))
              refine own_by (fun t k => XS.goto X0.here hx rfl (pc0 := 43) (pc' := 4) rfl (hb hby own_d2_43) (by decide) (by decide) k) ?_
              show own_Go p.tables e below K (s₁.setTop (mkF m 4 #[.val (.ref ra), .val (.ref rb), .val (.int (1 : Int32)), .val (.int (3 : Int32))] []))
              refine own_by (fun t k => XS.iloadN X0.here hx rfl (hb hby own_d2_4) rfl k) ?_
              show own_Go p.tables e below K (s₁.setTop (mkF m 5 #[.val (.ref ra), .val (.ref rb), .val (.int (1 : Int32)), .val (.int (3 : Int32))] [(.int (3 : Int32))]))
              refine own_by (fun t k => XS.aloadN X0.here hx rfl (hb hby own_d2_5) rfl rfl k) ?_
              show own_Go p.tables e below K (s₁.setTop (mkF m 6 #[.val (.ref ra), .val (.ref rb), .val (.int (1 : Int32)), .val (.int (3 : Int32))] [(.ref ra), (.int (3 : Int32))]))
              obtain ⟨cl60, Ar60, -, S60, M60, -, -⟩ := id VA
              refine own_by (fun t k => X0.arraylength hx (by rw [e0]; exact Ar60.1) (State.isArrayOf_alike hZ.alike Ar60.2.1) (g := (mkF m 6 #[.val (.ref ra), .val (.ref rb), .val (.int (1 : Int32)), .val (.int (3 : Int32))] [(.ref ra), (.int (3 : Int32))])) rfl rfl (hb hby own_d2_6) t k) ?_
              rw [len_of S60 M60]
              show own_Go p.tables e below K (s₁.setTop (mkF m 7 #[.val (.ref ra), .val (.ref rb), .val (.int (1 : Int32)), .val (.int (3 : Int32))] [(.int (3 : Int32)), (.int (3 : Int32))]))
              have hc7 : ¬ ((3 : Int32) < (3 : Int32)) := by decide
              refine own_by (fun t k => XS.icmpYes X0.here hx rfl (pc0 := 7) (pc' := 46) rfl (hb hby own_d2_7) rfl (flt hc7).2.1 (by decide) (by decide) k) ?_
              show own_Go p.tables e below K (s₁.setTop (mkF m 46 #[.val (.ref ra), .val (.ref rb), .val (.int (1 : Int32)), .val (.int (3 : Int32))] []))
              refine own_by (fun t k => XS.iloadN X0.here hx rfl (hb hby own_d2_46) rfl k) ?_
              show own_Go p.tables e below K (s₁.setTop (mkF m 47 #[.val (.ref ra), .val (.ref rb), .val (.int (1 : Int32)), .val (.int (3 : Int32))] [(.int (1 : Int32))]))
              exact own_retZ X0 hx (t := .boolean) hret (by simp) (hb hby own_d2_47) (hK (some (.int (1 : Int32))) X0 (fun h => by rw [hret] at h; cases h) ⟨by simp_all [own_dom3, own_i64], N0, e0⟩ (by decide) (by decide))
            · refine own_by (fun t k => XS.ifYes X0.here hx rfl (pc0 := 30) (pc' := 37) rfl (hb hby own_d2_30) rfl (own_lge hc30).2 (by decide) (by decide) k) ?_
              show own_Go p.tables e below K (s₁.setTop (mkF m 37 #[.val (.ref ra), .val (.ref rb), .val (.int (1 : Int32)), .val (.int (2 : Int32))] [(.int (1 : Int32))]))
              refine own_by (fun t k => XS.iconst X0.here hx rfl (hb hby own_d2_37) k) ?_
              show own_Go p.tables e below K (s₁.setTop (mkF m 38 #[.val (.ref ra), .val (.ref rb), .val (.int (1 : Int32)), .val (.int (2 : Int32))] [(.int (0 : Int32)), (.int (1 : Int32))]))
              refine own_by (fun t k => XS.ior X0.here hx rfl (hb hby own_d2_38) rfl k) ?_
              show own_Go p.tables e below K (s₁.setTop (mkF m 39 #[.val (.ref ra), .val (.ref rb), .val (.int (1 : Int32)), .val (.int (2 : Int32))] [(.int (1 : Int32))]))
              refine own_by (fun t k => XS.istoreN X0.here hx rfl (hb hby own_d2_39) rfl (l' := #[.val (.ref ra), .val (.ref rb), .val (.int (1 : Int32)), .val (.int (2 : Int32))]) rfl k) ?_
              show own_Go p.tables e below K (s₁.setTop (mkF m 40 #[.val (.ref ra), .val (.ref rb), .val (.int (1 : Int32)), .val (.int (2 : Int32))] []))
              refine own_by (fun t k => XS.iinc X0.here hx rfl (hb hby own_d2_40) rfl (l' := #[.val (.ref ra), .val (.ref rb), .val (.int (1 : Int32)), .val (.int (3 : Int32))]) rfl k) ?_
              show own_Go p.tables e below K (s₁.setTop (mkF m 43 #[.val (.ref ra), .val (.ref rb), .val (.int (1 : Int32)), .val (.int (3 : Int32))] []))
              refine own_by (fun t k => XS.goto X0.here hx rfl (pc0 := 43) (pc' := 4) rfl (hb hby own_d2_43) (by decide) (by decide) k) ?_
              show own_Go p.tables e below K (s₁.setTop (mkF m 4 #[.val (.ref ra), .val (.ref rb), .val (.int (1 : Int32)), .val (.int (3 : Int32))] []))
              refine own_by (fun t k => XS.iloadN X0.here hx rfl (hb hby own_d2_4) rfl k) ?_
              show own_Go p.tables e below K (s₁.setTop (mkF m 5 #[.val (.ref ra), .val (.ref rb), .val (.int (1 : Int32)), .val (.int (3 : Int32))] [(.int (3 : Int32))]))
              refine own_by (fun t k => XS.aloadN X0.here hx rfl (hb hby own_d2_5) rfl rfl k) ?_
              show own_Go p.tables e below K (s₁.setTop (mkF m 6 #[.val (.ref ra), .val (.ref rb), .val (.int (1 : Int32)), .val (.int (3 : Int32))] [(.ref ra), (.int (3 : Int32))]))
              obtain ⟨cl61, Ar61, -, S61, M61, -, -⟩ := id VA
              refine own_by (fun t k => X0.arraylength hx (by rw [e0]; exact Ar61.1) (State.isArrayOf_alike hZ.alike Ar61.2.1) (g := (mkF m 6 #[.val (.ref ra), .val (.ref rb), .val (.int (1 : Int32)), .val (.int (3 : Int32))] [(.ref ra), (.int (3 : Int32))])) rfl rfl (hb hby own_d2_6) t k) ?_
              rw [len_of S61 M61]
              show own_Go p.tables e below K (s₁.setTop (mkF m 7 #[.val (.ref ra), .val (.ref rb), .val (.int (1 : Int32)), .val (.int (3 : Int32))] [(.int (3 : Int32)), (.int (3 : Int32))]))
              have hc7 : ¬ ((3 : Int32) < (3 : Int32)) := by decide
              refine own_by (fun t k => XS.icmpYes X0.here hx rfl (pc0 := 7) (pc' := 46) rfl (hb hby own_d2_7) rfl (flt hc7).2.1 (by decide) (by decide) k) ?_
              show own_Go p.tables e below K (s₁.setTop (mkF m 46 #[.val (.ref ra), .val (.ref rb), .val (.int (1 : Int32)), .val (.int (3 : Int32))] []))
              refine own_by (fun t k => XS.iloadN X0.here hx rfl (hb hby own_d2_46) rfl k) ?_
              show own_Go p.tables e below K (s₁.setTop (mkF m 47 #[.val (.ref ra), .val (.ref rb), .val (.int (1 : Int32)), .val (.int (3 : Int32))] [(.int (1 : Int32))]))
              exact own_retZ X0 hx (t := .boolean) hret (by simp) (hb hby own_d2_47) (hK (some (.int (1 : Int32))) X0 (fun h => by rw [hret] at h; cases h) ⟨by simp_all [own_dom3, own_i64], N0, e0⟩ (by decide) (by decide))
    · refine own_by (fun t k => XS.ifYes X0.here hx rfl (pc0 := 30) (pc' := 37) rfl (hb hby own_d2_30) rfl (own_lge hc30).2 (by decide) (by decide) k) ?_
      show own_Go p.tables e below K (s₁.setTop (mkF m 37 #[.val (.ref ra), .val (.ref rb), .val (.int (0 : Int32)), .val (.int (0 : Int32))] [(.int (0 : Int32))]))
      refine own_by (fun t k => XS.iconst X0.here hx rfl (hb hby own_d2_37) k) ?_
      show own_Go p.tables e below K (s₁.setTop (mkF m 38 #[.val (.ref ra), .val (.ref rb), .val (.int (0 : Int32)), .val (.int (0 : Int32))] [(.int (0 : Int32)), (.int (0 : Int32))]))
      refine own_by (fun t k => XS.ior X0.here hx rfl (hb hby own_d2_38) rfl k) ?_
      show own_Go p.tables e below K (s₁.setTop (mkF m 39 #[.val (.ref ra), .val (.ref rb), .val (.int (0 : Int32)), .val (.int (0 : Int32))] [(.int (0 : Int32))]))
      refine own_by (fun t k => XS.istoreN X0.here hx rfl (hb hby own_d2_39) rfl (l' := #[.val (.ref ra), .val (.ref rb), .val (.int (0 : Int32)), .val (.int (0 : Int32))]) rfl k) ?_
      show own_Go p.tables e below K (s₁.setTop (mkF m 40 #[.val (.ref ra), .val (.ref rb), .val (.int (0 : Int32)), .val (.int (0 : Int32))] []))
      refine own_by (fun t k => XS.iinc X0.here hx rfl (hb hby own_d2_40) rfl (l' := #[.val (.ref ra), .val (.ref rb), .val (.int (0 : Int32)), .val (.int (1 : Int32))]) rfl k) ?_
      show own_Go p.tables e below K (s₁.setTop (mkF m 43 #[.val (.ref ra), .val (.ref rb), .val (.int (0 : Int32)), .val (.int (1 : Int32))] []))
      refine own_by (fun t k => XS.goto X0.here hx rfl (pc0 := 43) (pc' := 4) rfl (hb hby own_d2_43) (by decide) (by decide) k) ?_
      show own_Go p.tables e below K (s₁.setTop (mkF m 4 #[.val (.ref ra), .val (.ref rb), .val (.int (0 : Int32)), .val (.int (1 : Int32))] []))
      refine own_by (fun t k => XS.iloadN X0.here hx rfl (hb hby own_d2_4) rfl k) ?_
      show own_Go p.tables e below K (s₁.setTop (mkF m 5 #[.val (.ref ra), .val (.ref rb), .val (.int (0 : Int32)), .val (.int (1 : Int32))] [(.int (1 : Int32))]))
      refine own_by (fun t k => XS.aloadN X0.here hx rfl (hb hby own_d2_5) rfl rfl k) ?_
      show own_Go p.tables e below K (s₁.setTop (mkF m 6 #[.val (.ref ra), .val (.ref rb), .val (.int (0 : Int32)), .val (.int (1 : Int32))] [(.ref ra), (.int (1 : Int32))]))
      obtain ⟨cl62, Ar62, -, S62, M62, -, -⟩ := id VA
      refine own_by (fun t k => X0.arraylength hx (by rw [e0]; exact Ar62.1) (State.isArrayOf_alike hZ.alike Ar62.2.1) (g := (mkF m 6 #[.val (.ref ra), .val (.ref rb), .val (.int (0 : Int32)), .val (.int (1 : Int32))] [(.ref ra), (.int (1 : Int32))])) rfl rfl (hb hby own_d2_6) t k) ?_
      rw [len_of S62 M62]
      show own_Go p.tables e below K (s₁.setTop (mkF m 7 #[.val (.ref ra), .val (.ref rb), .val (.int (0 : Int32)), .val (.int (1 : Int32))] [(.int (3 : Int32)), (.int (1 : Int32))]))
      have hc7 : (1 : Int32) < (3 : Int32) := by decide
      refine own_by (fun t k => XS.icmpNo X0.here hx rfl (hb hby own_d2_7) rfl (tlt hc7).2.1 k) ?_
      show own_Go p.tables e below K (s₁.setTop (mkF m 10 #[.val (.ref ra), .val (.ref rb), .val (.int (0 : Int32)), .val (.int (1 : Int32))] []))
      refine own_by (fun t k => XS.aloadN X0.here hx rfl (hb hby own_d2_10) rfl rfl k) ?_
      show own_Go p.tables e below K (s₁.setTop (mkF m 11 #[.val (.ref ra), .val (.ref rb), .val (.int (0 : Int32)), .val (.int (1 : Int32))] [(.ref ra)]))
      refine own_by (fun t k => XS.iloadN X0.here hx rfl (hb hby own_d2_11) rfl k) ?_
      show own_Go p.tables e below K (s₁.setTop (mkF m 12 #[.val (.ref ra), .val (.ref rb), .val (.int (0 : Int32)), .val (.int (1 : Int32))] [(.int (1 : Int32)), (.ref ra)]))
      obtain ⟨cl63, Ar63, -, S63, M63, H63, -⟩ := id VA
      refine own_by (fun t k => X0.daload hx (j := (1 : Int32)) (v := (.double (FP.l2d a1.toInt64))) (by rw [e0]; exact Ar63.1) (State.isArrayOf_alike hZ.alike Ar63.2.1) Ar63.2.2 (inb_of S63 ⟨by decide, by decide⟩) (H63 1 (by rw [S63]; decide)) (g := (mkF m 12 #[.val (.ref ra), .val (.ref rb), .val (.int (0 : Int32)), .val (.int (1 : Int32))] [(.int (1 : Int32)), (.ref ra)])) rfl rfl (hb hby own_d2_12) t k) ?_
      show own_Go p.tables e below K (s₁.setTop (mkF m 13 #[.val (.ref ra), .val (.ref rb), .val (.int (0 : Int32)), .val (.int (1 : Int32))] [(.double (FP.l2d a1.toInt64))]))
      refine own_by (fun t k => XS.aloadN X0.here hx rfl (hb hby own_d2_13) rfl rfl k) ?_
      show own_Go p.tables e below K (s₁.setTop (mkF m 14 #[.val (.ref ra), .val (.ref rb), .val (.int (0 : Int32)), .val (.int (1 : Int32))] [(.ref rb), (.double (FP.l2d a1.toInt64))]))
      refine own_by (fun t k => XS.iloadN X0.here hx rfl (hb hby own_d2_14) rfl k) ?_
      show own_Go p.tables e below K (s₁.setTop (mkF m 15 #[.val (.ref ra), .val (.ref rb), .val (.int (0 : Int32)), .val (.int (1 : Int32))] [(.int (1 : Int32)), (.ref rb), (.double (FP.l2d a1.toInt64))]))
      obtain ⟨cl64, Ar64, -, S64, M64, H64, -⟩ := id VB
      refine own_by (fun t k => X0.daload hx (j := (1 : Int32)) (v := (.double (FP.l2d b1.toInt64))) (by rw [e0]; exact Ar64.1) (State.isArrayOf_alike hZ.alike Ar64.2.1) Ar64.2.2 (inb_of S64 ⟨by decide, by decide⟩) (H64 1 (by rw [S64]; decide)) (g := (mkF m 15 #[.val (.ref ra), .val (.ref rb), .val (.int (0 : Int32)), .val (.int (1 : Int32))] [(.int (1 : Int32)), (.ref rb), (.double (FP.l2d a1.toInt64))])) rfl rfl (hb hby own_d2_15) t k) ?_
      show own_Go p.tables e below K (s₁.setTop (mkF m 16 #[.val (.ref ra), .val (.ref rb), .val (.int (0 : Int32)), .val (.int (1 : Int32))] [(.double (FP.l2d b1.toInt64)), (.double (FP.l2d a1.toInt64))]))
      refine own_by (fun t k => XS.dcmpS X0.here hx rfl (hb hby own_d2_16) rfl (dcmpV_w (own_b53 _) (own_b53 _) _) k) ?_
      show own_Go p.tables e below K (s₁.setTop (mkF m 17 #[.val (.ref ra), .val (.ref rb), .val (.int (0 : Int32)), .val (.int (1 : Int32))] [(.int (lcmpW a1.toInt64 b1.toInt64))]))
      by_cases hc17 : b1.toInt64 < a1.toInt64
      · refine own_by (fun t k => XS.ifNo X0.here hx rfl (hb hby own_d2_17) rfl (own_lgt hc17).2 k) ?_
        show own_Go p.tables e below K (s₁.setTop (mkF m 20 #[.val (.ref ra), .val (.ref rb), .val (.int (0 : Int32)), .val (.int (1 : Int32))] []))
        refine own_by (fun t k => XS.iconst X0.here hx rfl (hb hby own_d2_20) k) ?_
        show own_Go p.tables e below K (s₁.setTop (mkF m 21 #[.val (.ref ra), .val (.ref rb), .val (.int (0 : Int32)), .val (.int (1 : Int32))] [(.int (0 : Int32))]))
        exact own_retZ X0 hx (t := .boolean) hret (by simp) (hb hby own_d2_21) (hK (some (.int (0 : Int32))) X0 (fun h => by rw [hret] at h; cases h) ⟨by simp_all [own_dom3, own_i64], N0, e0⟩ (by decide) (by decide))
      · refine own_by (fun t k => XS.ifYes X0.here hx rfl (pc0 := 17) (pc' := 22) rfl (hb hby own_d2_17) rfl (own_lle hc17).2 (by decide) (by decide) k) ?_
        show own_Go p.tables e below K (s₁.setTop (mkF m 22 #[.val (.ref ra), .val (.ref rb), .val (.int (0 : Int32)), .val (.int (1 : Int32))] []))
        refine own_by (fun t k => XS.iloadN X0.here hx rfl (hb hby own_d2_22) rfl k) ?_
        show own_Go p.tables e below K (s₁.setTop (mkF m 23 #[.val (.ref ra), .val (.ref rb), .val (.int (0 : Int32)), .val (.int (1 : Int32))] [(.int (0 : Int32))]))
        refine own_by (fun t k => XS.aloadN X0.here hx rfl (hb hby own_d2_23) rfl rfl k) ?_
        show own_Go p.tables e below K (s₁.setTop (mkF m 24 #[.val (.ref ra), .val (.ref rb), .val (.int (0 : Int32)), .val (.int (1 : Int32))] [(.ref ra), (.int (0 : Int32))]))
        refine own_by (fun t k => XS.iloadN X0.here hx rfl (hb hby own_d2_24) rfl k) ?_
        show own_Go p.tables e below K (s₁.setTop (mkF m 25 #[.val (.ref ra), .val (.ref rb), .val (.int (0 : Int32)), .val (.int (1 : Int32))] [(.int (1 : Int32)), (.ref ra), (.int (0 : Int32))]))
        obtain ⟨cl65, Ar65, -, S65, M65, H65, -⟩ := id VA
        refine own_by (fun t k => X0.daload hx (j := (1 : Int32)) (v := (.double (FP.l2d a1.toInt64))) (by rw [e0]; exact Ar65.1) (State.isArrayOf_alike hZ.alike Ar65.2.1) Ar65.2.2 (inb_of S65 ⟨by decide, by decide⟩) (H65 1 (by rw [S65]; decide)) (g := (mkF m 25 #[.val (.ref ra), .val (.ref rb), .val (.int (0 : Int32)), .val (.int (1 : Int32))] [(.int (1 : Int32)), (.ref ra), (.int (0 : Int32))])) rfl rfl (hb hby own_d2_25) t k) ?_
        show own_Go p.tables e below K (s₁.setTop (mkF m 26 #[.val (.ref ra), .val (.ref rb), .val (.int (0 : Int32)), .val (.int (1 : Int32))] [(.double (FP.l2d a1.toInt64)), (.int (0 : Int32))]))
        refine own_by (fun t k => XS.aloadN X0.here hx rfl (hb hby own_d2_26) rfl rfl k) ?_
        show own_Go p.tables e below K (s₁.setTop (mkF m 27 #[.val (.ref ra), .val (.ref rb), .val (.int (0 : Int32)), .val (.int (1 : Int32))] [(.ref rb), (.double (FP.l2d a1.toInt64)), (.int (0 : Int32))]))
        refine own_by (fun t k => XS.iloadN X0.here hx rfl (hb hby own_d2_27) rfl k) ?_
        show own_Go p.tables e below K (s₁.setTop (mkF m 28 #[.val (.ref ra), .val (.ref rb), .val (.int (0 : Int32)), .val (.int (1 : Int32))] [(.int (1 : Int32)), (.ref rb), (.double (FP.l2d a1.toInt64)), (.int (0 : Int32))]))
        obtain ⟨cl66, Ar66, -, S66, M66, H66, -⟩ := id VB
        refine own_by (fun t k => X0.daload hx (j := (1 : Int32)) (v := (.double (FP.l2d b1.toInt64))) (by rw [e0]; exact Ar66.1) (State.isArrayOf_alike hZ.alike Ar66.2.1) Ar66.2.2 (inb_of S66 ⟨by decide, by decide⟩) (H66 1 (by rw [S66]; decide)) (g := (mkF m 28 #[.val (.ref ra), .val (.ref rb), .val (.int (0 : Int32)), .val (.int (1 : Int32))] [(.int (1 : Int32)), (.ref rb), (.double (FP.l2d a1.toInt64)), (.int (0 : Int32))])) rfl rfl (hb hby own_d2_28) t k) ?_
        show own_Go p.tables e below K (s₁.setTop (mkF m 29 #[.val (.ref ra), .val (.ref rb), .val (.int (0 : Int32)), .val (.int (1 : Int32))] [(.double (FP.l2d b1.toInt64)), (.double (FP.l2d a1.toInt64)), (.int (0 : Int32))]))
        refine own_by (fun t k => XS.dcmpS X0.here hx rfl (hb hby own_d2_29) rfl (dcmpV_w (own_b53 _) (own_b53 _) _) k) ?_
        show own_Go p.tables e below K (s₁.setTop (mkF m 30 #[.val (.ref ra), .val (.ref rb), .val (.int (0 : Int32)), .val (.int (1 : Int32))] [(.int (lcmpW a1.toInt64 b1.toInt64)), (.int (0 : Int32))]))
        by_cases hc30 : a1.toInt64 < b1.toInt64
        · refine own_by (fun t k => XS.ifNo X0.here hx rfl (hb hby own_d2_30) rfl (own_llt hc30).2 k) ?_
          show own_Go p.tables e below K (s₁.setTop (mkF m 33 #[.val (.ref ra), .val (.ref rb), .val (.int (0 : Int32)), .val (.int (1 : Int32))] [(.int (0 : Int32))]))
          refine own_by (fun t k => XS.iconst X0.here hx rfl (hb hby own_d2_33) k) ?_
          show own_Go p.tables e below K (s₁.setTop (mkF m 34 #[.val (.ref ra), .val (.ref rb), .val (.int (0 : Int32)), .val (.int (1 : Int32))] [(.int (1 : Int32)), (.int (0 : Int32))]))
          refine own_by (fun t k => XS.goto X0.here hx rfl (pc0 := 34) (pc' := 38) rfl (hb hby own_d2_34) (by decide) (by decide) k) ?_
          show own_Go p.tables e below K (s₁.setTop (mkF m 38 #[.val (.ref ra), .val (.ref rb), .val (.int (0 : Int32)), .val (.int (1 : Int32))] [(.int (1 : Int32)), (.int (0 : Int32))]))
          refine own_by (fun t k => XS.ior X0.here hx rfl (hb hby own_d2_38) rfl k) ?_
          show own_Go p.tables e below K (s₁.setTop (mkF m 39 #[.val (.ref ra), .val (.ref rb), .val (.int (0 : Int32)), .val (.int (1 : Int32))] [(.int (1 : Int32))]))
          refine own_by (fun t k => XS.istoreN X0.here hx rfl (hb hby own_d2_39) rfl (l' := #[.val (.ref ra), .val (.ref rb), .val (.int (1 : Int32)), .val (.int (1 : Int32))]) rfl k) ?_
          show own_Go p.tables e below K (s₁.setTop (mkF m 40 #[.val (.ref ra), .val (.ref rb), .val (.int (1 : Int32)), .val (.int (1 : Int32))] []))
          refine own_by (fun t k => XS.iinc X0.here hx rfl (hb hby own_d2_40) rfl (l' := #[.val (.ref ra), .val (.ref rb), .val (.int (1 : Int32)), .val (.int (2 : Int32))]) rfl k) ?_
          show own_Go p.tables e below K (s₁.setTop (mkF m 43 #[.val (.ref ra), .val (.ref rb), .val (.int (1 : Int32)), .val (.int (2 : Int32))] []))
          refine own_by (fun t k => XS.goto X0.here hx rfl (pc0 := 43) (pc' := 4) rfl (hb hby own_d2_43) (by decide) (by decide) k) ?_
          show own_Go p.tables e below K (s₁.setTop (mkF m 4 #[.val (.ref ra), .val (.ref rb), .val (.int (1 : Int32)), .val (.int (2 : Int32))] []))
          refine own_by (fun t k => XS.iloadN X0.here hx rfl (hb hby own_d2_4) rfl k) ?_
          show own_Go p.tables e below K (s₁.setTop (mkF m 5 #[.val (.ref ra), .val (.ref rb), .val (.int (1 : Int32)), .val (.int (2 : Int32))] [(.int (2 : Int32))]))
          refine own_by (fun t k => XS.aloadN X0.here hx rfl (hb hby own_d2_5) rfl rfl k) ?_
          show own_Go p.tables e below K (s₁.setTop (mkF m 6 #[.val (.ref ra), .val (.ref rb), .val (.int (1 : Int32)), .val (.int (2 : Int32))] [(.ref ra), (.int (2 : Int32))]))
          obtain ⟨cl67, Ar67, -, S67, M67, -, -⟩ := id VA
          refine own_by (fun t k => X0.arraylength hx (by rw [e0]; exact Ar67.1) (State.isArrayOf_alike hZ.alike Ar67.2.1) (g := (mkF m 6 #[.val (.ref ra), .val (.ref rb), .val (.int (1 : Int32)), .val (.int (2 : Int32))] [(.ref ra), (.int (2 : Int32))])) rfl rfl (hb hby own_d2_6) t k) ?_
          rw [len_of S67 M67]
          show own_Go p.tables e below K (s₁.setTop (mkF m 7 #[.val (.ref ra), .val (.ref rb), .val (.int (1 : Int32)), .val (.int (2 : Int32))] [(.int (3 : Int32)), (.int (2 : Int32))]))
          have hc7 : (2 : Int32) < (3 : Int32) := by decide
          refine own_by (fun t k => XS.icmpNo X0.here hx rfl (hb hby own_d2_7) rfl (tlt hc7).2.1 k) ?_
          show own_Go p.tables e below K (s₁.setTop (mkF m 10 #[.val (.ref ra), .val (.ref rb), .val (.int (1 : Int32)), .val (.int (2 : Int32))] []))
          refine own_by (fun t k => XS.aloadN X0.here hx rfl (hb hby own_d2_10) rfl rfl k) ?_
          show own_Go p.tables e below K (s₁.setTop (mkF m 11 #[.val (.ref ra), .val (.ref rb), .val (.int (1 : Int32)), .val (.int (2 : Int32))] [(.ref ra)]))
          refine own_by (fun t k => XS.iloadN X0.here hx rfl (hb hby own_d2_11) rfl k) ?_
          show own_Go p.tables e below K (s₁.setTop (mkF m 12 #[.val (.ref ra), .val (.ref rb), .val (.int (1 : Int32)), .val (.int (2 : Int32))] [(.int (2 : Int32)), (.ref ra)]))
          obtain ⟨cl68, Ar68, -, S68, M68, H68, -⟩ := id VA
          refine own_by (fun t k => X0.daload hx (j := (2 : Int32)) (v := (.double (FP.l2d a2.toInt64))) (by rw [e0]; exact Ar68.1) (State.isArrayOf_alike hZ.alike Ar68.2.1) Ar68.2.2 (inb_of S68 ⟨by decide, by decide⟩) (H68 2 (by rw [S68]; decide)) (g := (mkF m 12 #[.val (.ref ra), .val (.ref rb), .val (.int (1 : Int32)), .val (.int (2 : Int32))] [(.int (2 : Int32)), (.ref ra)])) rfl rfl (hb hby own_d2_12) t k) ?_
          show own_Go p.tables e below K (s₁.setTop (mkF m 13 #[.val (.ref ra), .val (.ref rb), .val (.int (1 : Int32)), .val (.int (2 : Int32))] [(.double (FP.l2d a2.toInt64))]))
          refine own_by (fun t k => XS.aloadN X0.here hx rfl (hb hby own_d2_13) rfl rfl k) ?_
          show own_Go p.tables e below K (s₁.setTop (mkF m 14 #[.val (.ref ra), .val (.ref rb), .val (.int (1 : Int32)), .val (.int (2 : Int32))] [(.ref rb), (.double (FP.l2d a2.toInt64))]))
          refine own_by (fun t k => XS.iloadN X0.here hx rfl (hb hby own_d2_14) rfl k) ?_
          show own_Go p.tables e below K (s₁.setTop (mkF m 15 #[.val (.ref ra), .val (.ref rb), .val (.int (1 : Int32)), .val (.int (2 : Int32))] [(.int (2 : Int32)), (.ref rb), (.double (FP.l2d a2.toInt64))]))
          obtain ⟨cl69, Ar69, -, S69, M69, H69, -⟩ := id VB
          refine own_by (fun t k => X0.daload hx (j := (2 : Int32)) (v := (.double (FP.l2d b2.toInt64))) (by rw [e0]; exact Ar69.1) (State.isArrayOf_alike hZ.alike Ar69.2.1) Ar69.2.2 (inb_of S69 ⟨by decide, by decide⟩) (H69 2 (by rw [S69]; decide)) (g := (mkF m 15 #[.val (.ref ra), .val (.ref rb), .val (.int (1 : Int32)), .val (.int (2 : Int32))] [(.int (2 : Int32)), (.ref rb), (.double (FP.l2d a2.toInt64))])) rfl rfl (hb hby own_d2_15) t k) ?_
          show own_Go p.tables e below K (s₁.setTop (mkF m 16 #[.val (.ref ra), .val (.ref rb), .val (.int (1 : Int32)), .val (.int (2 : Int32))] [(.double (FP.l2d b2.toInt64)), (.double (FP.l2d a2.toInt64))]))
          refine own_by (fun t k => XS.dcmpS X0.here hx rfl (hb hby own_d2_16) rfl (dcmpV_w (own_b53 _) (own_b53 _) _) k) ?_
          show own_Go p.tables e below K (s₁.setTop (mkF m 17 #[.val (.ref ra), .val (.ref rb), .val (.int (1 : Int32)), .val (.int (2 : Int32))] [(.int (lcmpW a2.toInt64 b2.toInt64))]))
          by_cases hc17 : b2.toInt64 < a2.toInt64
          · refine own_by (fun t k => XS.ifNo X0.here hx rfl (hb hby own_d2_17) rfl (own_lgt hc17).2 k) ?_
            show own_Go p.tables e below K (s₁.setTop (mkF m 20 #[.val (.ref ra), .val (.ref rb), .val (.int (1 : Int32)), .val (.int (2 : Int32))] []))
            refine own_by (fun t k => XS.iconst X0.here hx rfl (hb hby own_d2_20) k) ?_
            show own_Go p.tables e below K (s₁.setTop (mkF m 21 #[.val (.ref ra), .val (.ref rb), .val (.int (1 : Int32)), .val (.int (2 : Int32))] [(.int (0 : Int32))]))
            exact own_retZ X0 hx (t := .boolean) hret (by simp) (hb hby own_d2_21) (hK (some (.int (0 : Int32))) X0 (fun h => by rw [hret] at h; cases h) ⟨by simp_all [own_dom3, own_i64], N0, e0⟩ (by decide) (by decide))
          · refine own_by (fun t k => XS.ifYes X0.here hx rfl (pc0 := 17) (pc' := 22) rfl (hb hby own_d2_17) rfl (own_lle hc17).2 (by decide) (by decide) k) ?_
            show own_Go p.tables e below K (s₁.setTop (mkF m 22 #[.val (.ref ra), .val (.ref rb), .val (.int (1 : Int32)), .val (.int (2 : Int32))] []))
            refine own_by (fun t k => XS.iloadN X0.here hx rfl (hb hby own_d2_22) rfl k) ?_
            show own_Go p.tables e below K (s₁.setTop (mkF m 23 #[.val (.ref ra), .val (.ref rb), .val (.int (1 : Int32)), .val (.int (2 : Int32))] [(.int (1 : Int32))]))
            refine own_by (fun t k => XS.aloadN X0.here hx rfl (hb hby own_d2_23) rfl rfl k) ?_
            show own_Go p.tables e below K (s₁.setTop (mkF m 24 #[.val (.ref ra), .val (.ref rb), .val (.int (1 : Int32)), .val (.int (2 : Int32))] [(.ref ra), (.int (1 : Int32))]))
            refine own_by (fun t k => XS.iloadN X0.here hx rfl (hb hby own_d2_24) rfl k) ?_
            show own_Go p.tables e below K (s₁.setTop (mkF m 25 #[.val (.ref ra), .val (.ref rb), .val (.int (1 : Int32)), .val (.int (2 : Int32))] [(.int (2 : Int32)), (.ref ra), (.int (1 : Int32))]))
            obtain ⟨cl70, Ar70, -, S70, M70, H70, -⟩ := id VA
            refine own_by (fun t k => X0.daload hx (j := (2 : Int32)) (v := (.double (FP.l2d a2.toInt64))) (by rw [e0]; exact Ar70.1) (State.isArrayOf_alike hZ.alike Ar70.2.1) Ar70.2.2 (inb_of S70 ⟨by decide, by decide⟩) (H70 2 (by rw [S70]; decide)) (g := (mkF m 25 #[.val (.ref ra), .val (.ref rb), .val (.int (1 : Int32)), .val (.int (2 : Int32))] [(.int (2 : Int32)), (.ref ra), (.int (1 : Int32))])) rfl rfl (hb hby own_d2_25) t k) ?_
            show own_Go p.tables e below K (s₁.setTop (mkF m 26 #[.val (.ref ra), .val (.ref rb), .val (.int (1 : Int32)), .val (.int (2 : Int32))] [(.double (FP.l2d a2.toInt64)), (.int (1 : Int32))]))
            refine own_by (fun t k => XS.aloadN X0.here hx rfl (hb hby own_d2_26) rfl rfl k) ?_
            show own_Go p.tables e below K (s₁.setTop (mkF m 27 #[.val (.ref ra), .val (.ref rb), .val (.int (1 : Int32)), .val (.int (2 : Int32))] [(.ref rb), (.double (FP.l2d a2.toInt64)), (.int (1 : Int32))]))
            refine own_by (fun t k => XS.iloadN X0.here hx rfl (hb hby own_d2_27) rfl k) ?_
            show own_Go p.tables e below K (s₁.setTop (mkF m 28 #[.val (.ref ra), .val (.ref rb), .val (.int (1 : Int32)), .val (.int (2 : Int32))] [(.int (2 : Int32)), (.ref rb), (.double (FP.l2d a2.toInt64)), (.int (1 : Int32))]))
            obtain ⟨cl71, Ar71, -, S71, M71, H71, -⟩ := id VB
            refine own_by (fun t k => X0.daload hx (j := (2 : Int32)) (v := (.double (FP.l2d b2.toInt64))) (by rw [e0]; exact Ar71.1) (State.isArrayOf_alike hZ.alike Ar71.2.1) Ar71.2.2 (inb_of S71 ⟨by decide, by decide⟩) (H71 2 (by rw [S71]; decide)) (g := (mkF m 28 #[.val (.ref ra), .val (.ref rb), .val (.int (1 : Int32)), .val (.int (2 : Int32))] [(.int (2 : Int32)), (.ref rb), (.double (FP.l2d a2.toInt64)), (.int (1 : Int32))])) rfl rfl (hb hby own_d2_28) t k) ?_
            show own_Go p.tables e below K (s₁.setTop (mkF m 29 #[.val (.ref ra), .val (.ref rb), .val (.int (1 : Int32)), .val (.int (2 : Int32))] [(.double (FP.l2d b2.toInt64)), (.double (FP.l2d a2.toInt64)), (.int (1 : Int32))]))
            refine own_by (fun t k => XS.dcmpS X0.here hx rfl (hb hby own_d2_29) rfl (dcmpV_w (own_b53 _) (own_b53 _) _) k) ?_
            show own_Go p.tables e below K (s₁.setTop (mkF m 30 #[.val (.ref ra), .val (.ref rb), .val (.int (1 : Int32)), .val (.int (2 : Int32))] [(.int (lcmpW a2.toInt64 b2.toInt64)), (.int (1 : Int32))]))
            by_cases hc30 : a2.toInt64 < b2.toInt64
            · refine own_by (fun t k => XS.ifNo X0.here hx rfl (hb hby own_d2_30) rfl (own_llt hc30).2 k) ?_
              show own_Go p.tables e below K (s₁.setTop (mkF m 33 #[.val (.ref ra), .val (.ref rb), .val (.int (1 : Int32)), .val (.int (2 : Int32))] [(.int (1 : Int32))]))
              refine own_by (fun t k => XS.iconst X0.here hx rfl (hb hby own_d2_33) k) ?_
              show own_Go p.tables e below K (s₁.setTop (mkF m 34 #[.val (.ref ra), .val (.ref rb), .val (.int (1 : Int32)), .val (.int (2 : Int32))] [(.int (1 : Int32)), (.int (1 : Int32))]))
              refine own_by (fun t k => XS.goto X0.here hx rfl (pc0 := 34) (pc' := 38) rfl (hb hby own_d2_34) (by decide) (by decide) k) ?_
              show own_Go p.tables e below K (s₁.setTop (mkF m 38 #[.val (.ref ra), .val (.ref rb), .val (.int (1 : Int32)), .val (.int (2 : Int32))] [(.int (1 : Int32)), (.int (1 : Int32))]))
              refine own_by (fun t k => XS.ior X0.here hx rfl (hb hby own_d2_38) rfl k) ?_
              show own_Go p.tables e below K (s₁.setTop (mkF m 39 #[.val (.ref ra), .val (.ref rb), .val (.int (1 : Int32)), .val (.int (2 : Int32))] [(.int (1 : Int32))]))
              refine own_by (fun t k => XS.istoreN X0.here hx rfl (hb hby own_d2_39) rfl (l' := #[.val (.ref ra), .val (.ref rb), .val (.int (1 : Int32)), .val (.int (2 : Int32))]) rfl k) ?_
              show own_Go p.tables e below K (s₁.setTop (mkF m 40 #[.val (.ref ra), .val (.ref rb), .val (.int (1 : Int32)), .val (.int (2 : Int32))] []))
              refine own_by (fun t k => XS.iinc X0.here hx rfl (hb hby own_d2_40) rfl (l' := #[.val (.ref ra), .val (.ref rb), .val (.int (1 : Int32)), .val (.int (3 : Int32))]) rfl k) ?_
              show own_Go p.tables e below K (s₁.setTop (mkF m 43 #[.val (.ref ra), .val (.ref rb), .val (.int (1 : Int32)), .val (.int (3 : Int32))] []))
              refine own_by (fun t k => XS.goto X0.here hx rfl (pc0 := 43) (pc' := 4) rfl (hb hby own_d2_43) (by decide) (by decide) k) ?_
              show own_Go p.tables e below K (s₁.setTop (mkF m 4 #[.val (.ref ra), .val (.ref rb), .val (.int (1 : Int32)), .val (.int (3 : Int32))] []))
              refine own_by (fun t k => XS.iloadN X0.here hx rfl (hb hby own_d2_4) rfl k) ?_
              show own_Go p.tables e below K (s₁.setTop (mkF m 5 #[.val (.ref ra), .val (.ref rb), .val (.int (1 : Int32)), .val (.int (3 : Int32))] [(.int (3 : Int32))]))
              refine own_by (fun t k => XS.aloadN X0.here hx rfl (hb hby own_d2_5) rfl rfl k) ?_
              show own_Go p.tables e below K (s₁.setTop (mkF m 6 #[.val (.ref ra), .val (.ref rb), .val (.int (1 : Int32)), .val (.int (3 : Int32))] [(.ref ra), (.int (3 : Int32))]))
              obtain ⟨cl72, Ar72, -, S72, M72, -, -⟩ := id VA
              refine own_by (fun t k => X0.arraylength hx (by rw [e0]; exact Ar72.1) (State.isArrayOf_alike hZ.alike Ar72.2.1) (g := (mkF m 6 #[.val (.ref ra), .val (.ref rb), .val (.int (1 : Int32)), .val (.int (3 : Int32))] [(.ref ra), (.int (3 : Int32))])) rfl rfl (hb hby own_d2_6) t k) ?_
              rw [len_of S72 M72]
              show own_Go p.tables e below K (s₁.setTop (mkF m 7 #[.val (.ref ra), .val (.ref rb), .val (.int (1 : Int32)), .val (.int (3 : Int32))] [(.int (3 : Int32)), (.int (3 : Int32))]))
              have hc7 : ¬ ((3 : Int32) < (3 : Int32)) := by decide
              refine own_by (fun t k => XS.icmpYes X0.here hx rfl (pc0 := 7) (pc' := 46) rfl (hb hby own_d2_7) rfl (flt hc7).2.1 (by decide) (by decide) k) ?_
              show own_Go p.tables e below K (s₁.setTop (mkF m 46 #[.val (.ref ra), .val (.ref rb), .val (.int (1 : Int32)), .val (.int (3 : Int32))] []))
              refine own_by (fun t k => XS.iloadN X0.here hx rfl (hb hby own_d2_46) rfl k) ?_
              show own_Go p.tables e below K (s₁.setTop (mkF m 47 #[.val (.ref ra), .val (.ref rb), .val (.int (1 : Int32)), .val (.int (3 : Int32))] [(.int (1 : Int32))]))
              exact own_retZ X0 hx (t := .boolean) hret (by simp) (hb hby own_d2_47) (hK (some (.int (1 : Int32))) X0 (fun h => by rw [hret] at h; cases h) ⟨by simp_all [own_dom3, own_i64], N0, e0⟩ (by decide) (by decide))
            · refine own_by (fun t k => XS.ifYes X0.here hx rfl (pc0 := 30) (pc' := 37) rfl (hb hby own_d2_30) rfl (own_lge hc30).2 (by decide) (by decide) k) ?_
              show own_Go p.tables e below K (s₁.setTop (mkF m 37 #[.val (.ref ra), .val (.ref rb), .val (.int (1 : Int32)), .val (.int (2 : Int32))] [(.int (1 : Int32))]))
              refine own_by (fun t k => XS.iconst X0.here hx rfl (hb hby own_d2_37) k) ?_
              show own_Go p.tables e below K (s₁.setTop (mkF m 38 #[.val (.ref ra), .val (.ref rb), .val (.int (1 : Int32)), .val (.int (2 : Int32))] [(.int (0 : Int32)), (.int (1 : Int32))]))
              refine own_by (fun t k => XS.ior X0.here hx rfl (hb hby own_d2_38) rfl k) ?_
              show own_Go p.tables e below K (s₁.setTop (mkF m 39 #[.val (.ref ra), .val (.ref rb), .val (.int (1 : Int32)), .val (.int (2 : Int32))] [(.int (1 : Int32))]))
              refine own_by (fun t k => XS.istoreN X0.here hx rfl (hb hby own_d2_39) rfl (l' := #[.val (.ref ra), .val (.ref rb), .val (.int (1 : Int32)), .val (.int (2 : Int32))]) rfl k) ?_
              show own_Go p.tables e below K (s₁.setTop (mkF m 40 #[.val (.ref ra), .val (.ref rb), .val (.int (1 : Int32)), .val (.int (2 : Int32))] []))
              refine own_by (fun t k => XS.iinc X0.here hx rfl (hb hby own_d2_40) rfl (l' := #[.val (.ref ra), .val (.ref rb), .val (.int (1 : Int32)), .val (.int (3 : Int32))]) rfl k) ?_
              show own_Go p.tables e below K (s₁.setTop (mkF m 43 #[.val (.ref ra), .val (.ref rb), .val (.int (1 : Int32)), .val (.int (3 : Int32))] []))
              refine own_by (fun t k => XS.goto X0.here hx rfl (pc0 := 43) (pc' := 4) rfl (hb hby own_d2_43) (by decide) (by decide) k) ?_
              show own_Go p.tables e below K (s₁.setTop (mkF m 4 #[.val (.ref ra), .val (.ref rb), .val (.int (1 : Int32)), .val (.int (3 : Int32))] []))
              refine own_by (fun t k => XS.iloadN X0.here hx rfl (hb hby own_d2_4) rfl k) ?_
              show own_Go p.tables e below K (s₁.setTop (mkF m 5 #[.val (.ref ra), .val (.ref rb), .val (.int (1 : Int32)), .val (.int (3 : Int32))] [(.int (3 : Int32))]))
              refine own_by (fun t k => XS.aloadN X0.here hx rfl (hb hby own_d2_5) rfl rfl k) ?_
              show own_Go p.tables e below K (s₁.setTop (mkF m 6 #[.val (.ref ra), .val (.ref rb), .val (.int (1 : Int32)), .val (.int (3 : Int32))] [(.ref ra), (.int (3 : Int32))]))
              obtain ⟨cl73, Ar73, -, S73, M73, -, -⟩ := id VA
              refine own_by (fun t k => X0.arraylength hx (by rw [e0]; exact Ar73.1) (State.isArrayOf_alike hZ.alike Ar73.2.1) (g := (mkF m 6 #[.val (.ref ra), .val (.ref rb), .val (.int (1 : Int32)), .val (.int (3 : Int32))] [(.ref ra), (.int (3 : Int32))])) rfl rfl (hb hby own_d2_6) t k) ?_
              rw [len_of S73 M73]
              show own_Go p.tables e below K (s₁.setTop (mkF m 7 #[.val (.ref ra), .val (.ref rb), .val (.int (1 : Int32)), .val (.int (3 : Int32))] [(.int (3 : Int32)), (.int (3 : Int32))]))
              have hc7 : ¬ ((3 : Int32) < (3 : Int32)) := by decide
              refine own_by (fun t k => XS.icmpYes X0.here hx rfl (pc0 := 7) (pc' := 46) rfl (hb hby own_d2_7) rfl (flt hc7).2.1 (by decide) (by decide) k) ?_
              show own_Go p.tables e below K (s₁.setTop (mkF m 46 #[.val (.ref ra), .val (.ref rb), .val (.int (1 : Int32)), .val (.int (3 : Int32))] []))
              refine own_by (fun t k => XS.iloadN X0.here hx rfl (hb hby own_d2_46) rfl k) ?_
              show own_Go p.tables e below K (s₁.setTop (mkF m 47 #[.val (.ref ra), .val (.ref rb), .val (.int (1 : Int32)), .val (.int (3 : Int32))] [(.int (1 : Int32))]))
              exact own_retZ X0 hx (t := .boolean) hret (by simp) (hb hby own_d2_47) (hK (some (.int (1 : Int32))) X0 (fun h => by rw [hret] at h; cases h) ⟨by simp_all [own_dom3, own_i64], N0, e0⟩ (by decide) (by decide))
        · refine own_by (fun t k => XS.ifYes X0.here hx rfl (pc0 := 30) (pc' := 37) rfl (hb hby own_d2_30) rfl (own_lge hc30).2 (by decide) (by decide) k) ?_
          show own_Go p.tables e below K (s₁.setTop (mkF m 37 #[.val (.ref ra), .val (.ref rb), .val (.int (0 : Int32)), .val (.int (1 : Int32))] [(.int (0 : Int32))]))
          refine own_by (fun t k => XS.iconst X0.here hx rfl (hb hby own_d2_37) k) ?_
          show own_Go p.tables e below K (s₁.setTop (mkF m 38 #[.val (.ref ra), .val (.ref rb), .val (.int (0 : Int32)), .val (.int (1 : Int32))] [(.int (0 : Int32)), (.int (0 : Int32))]))
          refine own_by (fun t k => XS.ior X0.here hx rfl (hb hby own_d2_38) rfl k) ?_
          show own_Go p.tables e below K (s₁.setTop (mkF m 39 #[.val (.ref ra), .val (.ref rb), .val (.int (0 : Int32)), .val (.int (1 : Int32))] [(.int (0 : Int32))]))
          refine own_by (fun t k => XS.istoreN X0.here hx rfl (hb hby own_d2_39) rfl (l' := #[.val (.ref ra), .val (.ref rb), .val (.int (0 : Int32)), .val (.int (1 : Int32))]) rfl k) ?_
          show own_Go p.tables e below K (s₁.setTop (mkF m 40 #[.val (.ref ra), .val (.ref rb), .val (.int (0 : Int32)), .val (.int (1 : Int32))] []))
          refine own_by (fun t k => XS.iinc X0.here hx rfl (hb hby own_d2_40) rfl (l' := #[.val (.ref ra), .val (.ref rb), .val (.int (0 : Int32)), .val (.int (2 : Int32))]) rfl k) ?_
          show own_Go p.tables e below K (s₁.setTop (mkF m 43 #[.val (.ref ra), .val (.ref rb), .val (.int (0 : Int32)), .val (.int (2 : Int32))] []))
          refine own_by (fun t k => XS.goto X0.here hx rfl (pc0 := 43) (pc' := 4) rfl (hb hby own_d2_43) (by decide) (by decide) k) ?_
          show own_Go p.tables e below K (s₁.setTop (mkF m 4 #[.val (.ref ra), .val (.ref rb), .val (.int (0 : Int32)), .val (.int (2 : Int32))] []))
          refine own_by (fun t k => XS.iloadN X0.here hx rfl (hb hby own_d2_4) rfl k) ?_
          show own_Go p.tables e below K (s₁.setTop (mkF m 5 #[.val (.ref ra), .val (.ref rb), .val (.int (0 : Int32)), .val (.int (2 : Int32))] [(.int (2 : Int32))]))
          refine own_by (fun t k => XS.aloadN X0.here hx rfl (hb hby own_d2_5) rfl rfl k) ?_
          show own_Go p.tables e below K (s₁.setTop (mkF m 6 #[.val (.ref ra), .val (.ref rb), .val (.int (0 : Int32)), .val (.int (2 : Int32))] [(.ref ra), (.int (2 : Int32))]))
          obtain ⟨cl74, Ar74, -, S74, M74, -, -⟩ := id VA
          refine own_by (fun t k => X0.arraylength hx (by rw [e0]; exact Ar74.1) (State.isArrayOf_alike hZ.alike Ar74.2.1) (g := (mkF m 6 #[.val (.ref ra), .val (.ref rb), .val (.int (0 : Int32)), .val (.int (2 : Int32))] [(.ref ra), (.int (2 : Int32))])) rfl rfl (hb hby own_d2_6) t k) ?_
          rw [len_of S74 M74]
          show own_Go p.tables e below K (s₁.setTop (mkF m 7 #[.val (.ref ra), .val (.ref rb), .val (.int (0 : Int32)), .val (.int (2 : Int32))] [(.int (3 : Int32)), (.int (2 : Int32))]))
          have hc7 : (2 : Int32) < (3 : Int32) := by decide
          refine own_by (fun t k => XS.icmpNo X0.here hx rfl (hb hby own_d2_7) rfl (tlt hc7).2.1 k) ?_
          show own_Go p.tables e below K (s₁.setTop (mkF m 10 #[.val (.ref ra), .val (.ref rb), .val (.int (0 : Int32)), .val (.int (2 : Int32))] []))
          refine own_by (fun t k => XS.aloadN X0.here hx rfl (hb hby own_d2_10) rfl rfl k) ?_
          show own_Go p.tables e below K (s₁.setTop (mkF m 11 #[.val (.ref ra), .val (.ref rb), .val (.int (0 : Int32)), .val (.int (2 : Int32))] [(.ref ra)]))
          refine own_by (fun t k => XS.iloadN X0.here hx rfl (hb hby own_d2_11) rfl k) ?_
          show own_Go p.tables e below K (s₁.setTop (mkF m 12 #[.val (.ref ra), .val (.ref rb), .val (.int (0 : Int32)), .val (.int (2 : Int32))] [(.int (2 : Int32)), (.ref ra)]))
          obtain ⟨cl75, Ar75, -, S75, M75, H75, -⟩ := id VA
          refine own_by (fun t k => X0.daload hx (j := (2 : Int32)) (v := (.double (FP.l2d a2.toInt64))) (by rw [e0]; exact Ar75.1) (State.isArrayOf_alike hZ.alike Ar75.2.1) Ar75.2.2 (inb_of S75 ⟨by decide, by decide⟩) (H75 2 (by rw [S75]; decide)) (g := (mkF m 12 #[.val (.ref ra), .val (.ref rb), .val (.int (0 : Int32)), .val (.int (2 : Int32))] [(.int (2 : Int32)), (.ref ra)])) rfl rfl (hb hby own_d2_12) t k) ?_
          show own_Go p.tables e below K (s₁.setTop (mkF m 13 #[.val (.ref ra), .val (.ref rb), .val (.int (0 : Int32)), .val (.int (2 : Int32))] [(.double (FP.l2d a2.toInt64))]))
          refine own_by (fun t k => XS.aloadN X0.here hx rfl (hb hby own_d2_13) rfl rfl k) ?_
          show own_Go p.tables e below K (s₁.setTop (mkF m 14 #[.val (.ref ra), .val (.ref rb), .val (.int (0 : Int32)), .val (.int (2 : Int32))] [(.ref rb), (.double (FP.l2d a2.toInt64))]))
          refine own_by (fun t k => XS.iloadN X0.here hx rfl (hb hby own_d2_14) rfl k) ?_
          show own_Go p.tables e below K (s₁.setTop (mkF m 15 #[.val (.ref ra), .val (.ref rb), .val (.int (0 : Int32)), .val (.int (2 : Int32))] [(.int (2 : Int32)), (.ref rb), (.double (FP.l2d a2.toInt64))]))
          obtain ⟨cl76, Ar76, -, S76, M76, H76, -⟩ := id VB
          refine own_by (fun t k => X0.daload hx (j := (2 : Int32)) (v := (.double (FP.l2d b2.toInt64))) (by rw [e0]; exact Ar76.1) (State.isArrayOf_alike hZ.alike Ar76.2.1) Ar76.2.2 (inb_of S76 ⟨by decide, by decide⟩) (H76 2 (by rw [S76]; decide)) (g := (mkF m 15 #[.val (.ref ra), .val (.ref rb), .val (.int (0 : Int32)), .val (.int (2 : Int32))] [(.int (2 : Int32)), (.ref rb), (.double (FP.l2d a2.toInt64))])) rfl rfl (hb hby own_d2_15) t k) ?_
          show own_Go p.tables e below K (s₁.setTop (mkF m 16 #[.val (.ref ra), .val (.ref rb), .val (.int (0 : Int32)), .val (.int (2 : Int32))] [(.double (FP.l2d b2.toInt64)), (.double (FP.l2d a2.toInt64))]))
          refine own_by (fun t k => XS.dcmpS X0.here hx rfl (hb hby own_d2_16) rfl (dcmpV_w (own_b53 _) (own_b53 _) _) k) ?_
          show own_Go p.tables e below K (s₁.setTop (mkF m 17 #[.val (.ref ra), .val (.ref rb), .val (.int (0 : Int32)), .val (.int (2 : Int32))] [(.int (lcmpW a2.toInt64 b2.toInt64))]))
          by_cases hc17 : b2.toInt64 < a2.toInt64
          · refine own_by (fun t k => XS.ifNo X0.here hx rfl (hb hby own_d2_17) rfl (own_lgt hc17).2 k) ?_
            show own_Go p.tables e below K (s₁.setTop (mkF m 20 #[.val (.ref ra), .val (.ref rb), .val (.int (0 : Int32)), .val (.int (2 : Int32))] []))
            refine own_by (fun t k => XS.iconst X0.here hx rfl (hb hby own_d2_20) k) ?_
            show own_Go p.tables e below K (s₁.setTop (mkF m 21 #[.val (.ref ra), .val (.ref rb), .val (.int (0 : Int32)), .val (.int (2 : Int32))] [(.int (0 : Int32))]))
            exact own_retZ X0 hx (t := .boolean) hret (by simp) (hb hby own_d2_21) (hK (some (.int (0 : Int32))) X0 (fun h => by rw [hret] at h; cases h) ⟨by simp_all [own_dom3, own_i64], N0, e0⟩ (by decide) (by decide))
          · refine own_by (fun t k => XS.ifYes X0.here hx rfl (pc0 := 17) (pc' := 22) rfl (hb hby own_d2_17) rfl (own_lle hc17).2 (by decide) (by decide) k) ?_
            show own_Go p.tables e below K (s₁.setTop (mkF m 22 #[.val (.ref ra), .val (.ref rb), .val (.int (0 : Int32)), .val (.int (2 : Int32))] []))
            refine own_by (fun t k => XS.iloadN X0.here hx rfl (hb hby own_d2_22) rfl k) ?_
            show own_Go p.tables e below K (s₁.setTop (mkF m 23 #[.val (.ref ra), .val (.ref rb), .val (.int (0 : Int32)), .val (.int (2 : Int32))] [(.int (0 : Int32))]))
            refine own_by (fun t k => XS.aloadN X0.here hx rfl (hb hby own_d2_23) rfl rfl k) ?_
            show own_Go p.tables e below K (s₁.setTop (mkF m 24 #[.val (.ref ra), .val (.ref rb), .val (.int (0 : Int32)), .val (.int (2 : Int32))] [(.ref ra), (.int (0 : Int32))]))
            refine own_by (fun t k => XS.iloadN X0.here hx rfl (hb hby own_d2_24) rfl k) ?_
            show own_Go p.tables e below K (s₁.setTop (mkF m 25 #[.val (.ref ra), .val (.ref rb), .val (.int (0 : Int32)), .val (.int (2 : Int32))] [(.int (2 : Int32)), (.ref ra), (.int (0 : Int32))]))
            obtain ⟨cl77, Ar77, -, S77, M77, H77, -⟩ := id VA
            refine own_by (fun t k => X0.daload hx (j := (2 : Int32)) (v := (.double (FP.l2d a2.toInt64))) (by rw [e0]; exact Ar77.1) (State.isArrayOf_alike hZ.alike Ar77.2.1) Ar77.2.2 (inb_of S77 ⟨by decide, by decide⟩) (H77 2 (by rw [S77]; decide)) (g := (mkF m 25 #[.val (.ref ra), .val (.ref rb), .val (.int (0 : Int32)), .val (.int (2 : Int32))] [(.int (2 : Int32)), (.ref ra), (.int (0 : Int32))])) rfl rfl (hb hby own_d2_25) t k) ?_
            show own_Go p.tables e below K (s₁.setTop (mkF m 26 #[.val (.ref ra), .val (.ref rb), .val (.int (0 : Int32)), .val (.int (2 : Int32))] [(.double (FP.l2d a2.toInt64)), (.int (0 : Int32))]))
            refine own_by (fun t k => XS.aloadN X0.here hx rfl (hb hby own_d2_26) rfl rfl k) ?_
            show own_Go p.tables e below K (s₁.setTop (mkF m 27 #[.val (.ref ra), .val (.ref rb), .val (.int (0 : Int32)), .val (.int (2 : Int32))] [(.ref rb), (.double (FP.l2d a2.toInt64)), (.int (0 : Int32))]))
            refine own_by (fun t k => XS.iloadN X0.here hx rfl (hb hby own_d2_27) rfl k) ?_
            show own_Go p.tables e below K (s₁.setTop (mkF m 28 #[.val (.ref ra), .val (.ref rb), .val (.int (0 : Int32)), .val (.int (2 : Int32))] [(.int (2 : Int32)), (.ref rb), (.double (FP.l2d a2.toInt64)), (.int (0 : Int32))]))
            obtain ⟨cl78, Ar78, -, S78, M78, H78, -⟩ := id VB
            refine own_by (fun t k => X0.daload hx (j := (2 : Int32)) (v := (.double (FP.l2d b2.toInt64))) (by rw [e0]; exact Ar78.1) (State.isArrayOf_alike hZ.alike Ar78.2.1) Ar78.2.2 (inb_of S78 ⟨by decide, by decide⟩) (H78 2 (by rw [S78]; decide)) (g := (mkF m 28 #[.val (.ref ra), .val (.ref rb), .val (.int (0 : Int32)), .val (.int (2 : Int32))] [(.int (2 : Int32)), (.ref rb), (.double (FP.l2d a2.toInt64)), (.int (0 : Int32))])) rfl rfl (hb hby own_d2_28) t k) ?_
            show own_Go p.tables e below K (s₁.setTop (mkF m 29 #[.val (.ref ra), .val (.ref rb), .val (.int (0 : Int32)), .val (.int (2 : Int32))] [(.double (FP.l2d b2.toInt64)), (.double (FP.l2d a2.toInt64)), (.int (0 : Int32))]))
            refine own_by (fun t k => XS.dcmpS X0.here hx rfl (hb hby own_d2_29) rfl (dcmpV_w (own_b53 _) (own_b53 _) _) k) ?_
            show own_Go p.tables e below K (s₁.setTop (mkF m 30 #[.val (.ref ra), .val (.ref rb), .val (.int (0 : Int32)), .val (.int (2 : Int32))] [(.int (lcmpW a2.toInt64 b2.toInt64)), (.int (0 : Int32))]))
            by_cases hc30 : a2.toInt64 < b2.toInt64
            · refine own_by (fun t k => XS.ifNo X0.here hx rfl (hb hby own_d2_30) rfl (own_llt hc30).2 k) ?_
              show own_Go p.tables e below K (s₁.setTop (mkF m 33 #[.val (.ref ra), .val (.ref rb), .val (.int (0 : Int32)), .val (.int (2 : Int32))] [(.int (0 : Int32))]))
              refine own_by (fun t k => XS.iconst X0.here hx rfl (hb hby own_d2_33) k) ?_
              show own_Go p.tables e below K (s₁.setTop (mkF m 34 #[.val (.ref ra), .val (.ref rb), .val (.int (0 : Int32)), .val (.int (2 : Int32))] [(.int (1 : Int32)), (.int (0 : Int32))]))
              refine own_by (fun t k => XS.goto X0.here hx rfl (pc0 := 34) (pc' := 38) rfl (hb hby own_d2_34) (by decide) (by decide) k) ?_
              show own_Go p.tables e below K (s₁.setTop (mkF m 38 #[.val (.ref ra), .val (.ref rb), .val (.int (0 : Int32)), .val (.int (2 : Int32))] [(.int (1 : Int32)), (.int (0 : Int32))]))
              refine own_by (fun t k => XS.ior X0.here hx rfl (hb hby own_d2_38) rfl k) ?_
              show own_Go p.tables e below K (s₁.setTop (mkF m 39 #[.val (.ref ra), .val (.ref rb), .val (.int (0 : Int32)), .val (.int (2 : Int32))] [(.int (1 : Int32))]))
              refine own_by (fun t k => XS.istoreN X0.here hx rfl (hb hby own_d2_39) rfl (l' := #[.val (.ref ra), .val (.ref rb), .val (.int (1 : Int32)), .val (.int (2 : Int32))]) rfl k) ?_
              show own_Go p.tables e below K (s₁.setTop (mkF m 40 #[.val (.ref ra), .val (.ref rb), .val (.int (1 : Int32)), .val (.int (2 : Int32))] []))
              refine own_by (fun t k => XS.iinc X0.here hx rfl (hb hby own_d2_40) rfl (l' := #[.val (.ref ra), .val (.ref rb), .val (.int (1 : Int32)), .val (.int (3 : Int32))]) rfl k) ?_
              show own_Go p.tables e below K (s₁.setTop (mkF m 43 #[.val (.ref ra), .val (.ref rb), .val (.int (1 : Int32)), .val (.int (3 : Int32))] []))
              refine own_by (fun t k => XS.goto X0.here hx rfl (pc0 := 43) (pc' := 4) rfl (hb hby own_d2_43) (by decide) (by decide) k) ?_
              show own_Go p.tables e below K (s₁.setTop (mkF m 4 #[.val (.ref ra), .val (.ref rb), .val (.int (1 : Int32)), .val (.int (3 : Int32))] []))
              refine own_by (fun t k => XS.iloadN X0.here hx rfl (hb hby own_d2_4) rfl k) ?_
              show own_Go p.tables e below K (s₁.setTop (mkF m 5 #[.val (.ref ra), .val (.ref rb), .val (.int (1 : Int32)), .val (.int (3 : Int32))] [(.int (3 : Int32))]))
              refine own_by (fun t k => XS.aloadN X0.here hx rfl (hb hby own_d2_5) rfl rfl k) ?_
              show own_Go p.tables e below K (s₁.setTop (mkF m 6 #[.val (.ref ra), .val (.ref rb), .val (.int (1 : Int32)), .val (.int (3 : Int32))] [(.ref ra), (.int (3 : Int32))]))
              obtain ⟨cl79, Ar79, -, S79, M79, -, -⟩ := id VA
              refine own_by (fun t k => X0.arraylength hx (by rw [e0]; exact Ar79.1) (State.isArrayOf_alike hZ.alike Ar79.2.1) (g := (mkF m 6 #[.val (.ref ra), .val (.ref rb), .val (.int (1 : Int32)), .val (.int (3 : Int32))] [(.ref ra), (.int (3 : Int32))])) rfl rfl (hb hby own_d2_6) t k) ?_
              rw [len_of S79 M79]
              show own_Go p.tables e below K (s₁.setTop (mkF m 7 #[.val (.ref ra), .val (.ref rb), .val (.int (1 : Int32)), .val (.int (3 : Int32))] [(.int (3 : Int32)), (.int (3 : Int32))]))
              have hc7 : ¬ ((3 : Int32) < (3 : Int32)) := by decide
              refine own_by (fun t k => XS.icmpYes X0.here hx rfl (pc0 := 7) (pc' := 46) rfl (hb hby own_d2_7) rfl (flt hc7).2.1 (by decide) (by decide) k) ?_
              show own_Go p.tables e below K (s₁.setTop (mkF m 46 #[.val (.ref ra), .val (.ref rb), .val (.int (1 : Int32)), .val (.int (3 : Int32))] []))
              refine own_by (fun t k => XS.iloadN X0.here hx rfl (hb hby own_d2_46) rfl k) ?_
              show own_Go p.tables e below K (s₁.setTop (mkF m 47 #[.val (.ref ra), .val (.ref rb), .val (.int (1 : Int32)), .val (.int (3 : Int32))] [(.int (1 : Int32))]))
              exact own_retZ X0 hx (t := .boolean) hret (by simp) (hb hby own_d2_47) (hK (some (.int (1 : Int32))) X0 (fun h => by rw [hret] at h; cases h) ⟨by simp_all [own_dom3, own_i64], N0, e0⟩ (by decide) (by decide))
            · refine own_by (fun t k => XS.ifYes X0.here hx rfl (pc0 := 30) (pc' := 37) rfl (hb hby own_d2_30) rfl (own_lge hc30).2 (by decide) (by decide) k) ?_
              show own_Go p.tables e below K (s₁.setTop (mkF m 37 #[.val (.ref ra), .val (.ref rb), .val (.int (0 : Int32)), .val (.int (2 : Int32))] [(.int (0 : Int32))]))
              refine own_by (fun t k => XS.iconst X0.here hx rfl (hb hby own_d2_37) k) ?_
              show own_Go p.tables e below K (s₁.setTop (mkF m 38 #[.val (.ref ra), .val (.ref rb), .val (.int (0 : Int32)), .val (.int (2 : Int32))] [(.int (0 : Int32)), (.int (0 : Int32))]))
              refine own_by (fun t k => XS.ior X0.here hx rfl (hb hby own_d2_38) rfl k) ?_
              show own_Go p.tables e below K (s₁.setTop (mkF m 39 #[.val (.ref ra), .val (.ref rb), .val (.int (0 : Int32)), .val (.int (2 : Int32))] [(.int (0 : Int32))]))
              refine own_by (fun t k => XS.istoreN X0.here hx rfl (hb hby own_d2_39) rfl (l' := #[.val (.ref ra), .val (.ref rb), .val (.int (0 : Int32)), .val (.int (2 : Int32))]) rfl k) ?_
              show own_Go p.tables e below K (s₁.setTop (mkF m 40 #[.val (.ref ra), .val (.ref rb), .val (.int (0 : Int32)), .val (.int (2 : Int32))] []))
              refine own_by (fun t k => XS.iinc X0.here hx rfl (hb hby own_d2_40) rfl (l' := #[.val (.ref ra), .val (.ref rb), .val (.int (0 : Int32)), .val (.int (3 : Int32))]) rfl k) ?_
              show own_Go p.tables e below K (s₁.setTop (mkF m 43 #[.val (.ref ra), .val (.ref rb), .val (.int (0 : Int32)), .val (.int (3 : Int32))] []))
              refine own_by (fun t k => XS.goto X0.here hx rfl (pc0 := 43) (pc' := 4) rfl (hb hby own_d2_43) (by decide) (by decide) k) ?_
              show own_Go p.tables e below K (s₁.setTop (mkF m 4 #[.val (.ref ra), .val (.ref rb), .val (.int (0 : Int32)), .val (.int (3 : Int32))] []))
              refine own_by (fun t k => XS.iloadN X0.here hx rfl (hb hby own_d2_4) rfl k) ?_
              show own_Go p.tables e below K (s₁.setTop (mkF m 5 #[.val (.ref ra), .val (.ref rb), .val (.int (0 : Int32)), .val (.int (3 : Int32))] [(.int (3 : Int32))]))
              refine own_by (fun t k => XS.aloadN X0.here hx rfl (hb hby own_d2_5) rfl rfl k) ?_
              show own_Go p.tables e below K (s₁.setTop (mkF m 6 #[.val (.ref ra), .val (.ref rb), .val (.int (0 : Int32)), .val (.int (3 : Int32))] [(.ref ra), (.int (3 : Int32))]))
              obtain ⟨cl80, Ar80, -, S80, M80, -, -⟩ := id VA
              refine own_by (fun t k => X0.arraylength hx (by rw [e0]; exact Ar80.1) (State.isArrayOf_alike hZ.alike Ar80.2.1) (g := (mkF m 6 #[.val (.ref ra), .val (.ref rb), .val (.int (0 : Int32)), .val (.int (3 : Int32))] [(.ref ra), (.int (3 : Int32))])) rfl rfl (hb hby own_d2_6) t k) ?_
              rw [len_of S80 M80]
              show own_Go p.tables e below K (s₁.setTop (mkF m 7 #[.val (.ref ra), .val (.ref rb), .val (.int (0 : Int32)), .val (.int (3 : Int32))] [(.int (3 : Int32)), (.int (3 : Int32))]))
              have hc7 : ¬ ((3 : Int32) < (3 : Int32)) := by decide
              refine own_by (fun t k => XS.icmpYes X0.here hx rfl (pc0 := 7) (pc' := 46) rfl (hb hby own_d2_7) rfl (flt hc7).2.1 (by decide) (by decide) k) ?_
              show own_Go p.tables e below K (s₁.setTop (mkF m 46 #[.val (.ref ra), .val (.ref rb), .val (.int (0 : Int32)), .val (.int (3 : Int32))] []))
              refine own_by (fun t k => XS.iloadN X0.here hx rfl (hb hby own_d2_46) rfl k) ?_
              show own_Go p.tables e below K (s₁.setTop (mkF m 47 #[.val (.ref ra), .val (.ref rb), .val (.int (0 : Int32)), .val (.int (3 : Int32))] [(.int (0 : Int32))]))
              exact own_retZ X0 hx (t := .boolean) hret (by simp) (hb hby own_d2_47) (hK (some (.int (0 : Int32))) X0 (fun h => by rw [hret] at h; cases h) ⟨by simp_all [own_dom3, own_i64], N0, e0⟩ (by decide) (by decide))
theorem own_pd0 : parseMethodDescriptor "(IIII)[D" = some ⟨[.int, .int, .int, .int], some (.array .double)⟩ := by decide +kernel
theorem own_pd1 : parseMethodDescriptor "([D[D)Z" = some ⟨[(.array .double), (.array .double)], some .boolean⟩ := by decide +kernel
theorem own_ef0 (m : MethodId) (q1 : Int32) (q2 : Int32) (q3 : Int32) : entryFrame m #[(.int q1), (.int q2), (.int q3)] maxLocals = mkF m 0 #[.val (.int q1), .val (.int q2), .val (.int q3), .unset, .unset, .unset, .unset, .unset, .unset, .unset, .unset, .unset, .unset, .unset, .unset] [] := by first | (simp [entryFrame, mkF, argsToLocals, Value.category, maxLocals]; done) | rfl
def own_Q0 (Z : State) (q1 : Int32) (q2 : Int32) (q3 : Int32) (h0 : Heap) (n0 : Nat) (v : Option Value) (h : Heap) (L : List Loc) : Prop := v = some (.int (1 : Int32)) ∧ Fr n0 L
set_option maxRecDepth 65536 in
set_option maxHeartbeats 40000000 in
theorem own_rm0 (l : Launch) (Z : State) (aw : Array Value) (hw : ∀ d ∈ tables_1, d.before aw Z = true) (ws : List Jvm.Cond) (q1 : Int32) (q2 : Int32) (q3 : Int32) (h0 : Heap) (n0 : Nat) (Z0 : n0 ≤ h0.size)  :
    MetFree l x (head1 (Jvm.Cond.code x code maxLocals ret :: ws) room_1) (fun a U => a = #[(.int q1), (.int q2), (.int q3)] ∧ Z.Warmed39 U.vm ∧ U.heap = h0) (fun _ _ _ _ _ => True) (fun _ U o U' => ∃ v L, o = .returned v ∧ own_Q0 Z q1 q2 q3 h0 n0 v U'.heap L ∧ FrameEnd U o U' L 2 6) := by
  refine own_met (Q := own_Q0 Z q1 q2 q3 h0 n0) (plainFor_of_name own_pn1) ?_
  intro p e s m below meth c s₁ K hx hby hml hown hnm hret hZ X0 e0 hK
  have hown : s.vm.findClass "com/example/manyfront/manyfront/sorting/NondominatedSortingDominatesPinLaw" = some m.cls := hown
  have N0 := Fr.nil n0
  refine own_by (fun t k => castTop (own_ef0 m q1 q2 q3) k) ?_
  show own_Go p.tables e below K (s₁.setTop (mkF m 0 #[.val (.int q1), .val (.int q2), .val (.int q3), .unset, .unset, .unset, .unset, .unset, .unset, .unset, .unset, .unset, .unset, .unset, .unset] []))
  refine own_by (fun t k => XS.iloadN X0.here hx rfl (hb hby at_0) rfl k) ?_
  show own_Go p.tables e below K (s₁.setTop (mkF m 1 #[.val (.int q1), .val (.int q2), .val (.int q3), .unset, .unset, .unset, .unset, .unset, .unset, .unset, .unset, .unset, .unset, .unset, .unset] [(.int q3)]))
  refine own_by (fun t k => XS.iconst X0.here hx rfl (hb hby at_1) k) ?_
  show own_Go p.tables e below K (s₁.setTop (mkF m 2 #[.val (.int q1), .val (.int q2), .val (.int q3), .unset, .unset, .unset, .unset, .unset, .unset, .unset, .unset, .unset, .unset, .unset, .unset] [(.int (3 : Int32)), (.int q3)]))
  refine own_by (fun t k => XS.iand X0.here hx rfl (hb hby at_2) rfl k) ?_
  show own_Go p.tables e below K (s₁.setTop (mkF m 3 #[.val (.int q1), .val (.int q2), .val (.int q3), .unset, .unset, .unset, .unset, .unset, .unset, .unset, .unset, .unset, .unset, .unset, .unset] [(.int (q3 &&& (3 : Int32)))]))
  refine own_by (fun t k => XS.istoreN X0.here hx rfl (hb hby at_3) rfl (l' := #[.val (.int q1), .val (.int q2), .val (.int q3), .val (.int (q3 &&& (3 : Int32))), .unset, .unset, .unset, .unset, .unset, .unset, .unset, .unset, .unset, .unset, .unset]) rfl k) ?_
  show own_Go p.tables e below K (s₁.setTop (mkF m 4 #[.val (.int q1), .val (.int q2), .val (.int q3), .val (.int (q3 &&& (3 : Int32))), .unset, .unset, .unset, .unset, .unset, .unset, .unset, .unset, .unset, .unset, .unset] []))
  refine own_by (fun t k => XS.iloadN X0.here hx rfl (hb hby at_4) rfl k) ?_
  show own_Go p.tables e below K (s₁.setTop (mkF m 5 #[.val (.int q1), .val (.int q2), .val (.int q3), .val (.int (q3 &&& (3 : Int32))), .unset, .unset, .unset, .unset, .unset, .unset, .unset, .unset, .unset, .unset, .unset] [(.int q1)]))
  refine own_by (fun t k => XS.bipush X0.here hx rfl (hb hby at_5) k) ?_
  show own_Go p.tables e below K (s₁.setTop (mkF m 7 #[.val (.int q1), .val (.int q2), .val (.int q3), .val (.int (q3 &&& (3 : Int32))), .unset, .unset, .unset, .unset, .unset, .unset, .unset, .unset, .unset, .unset, .unset] [(.int (15 : Int32)), (.int q1)]))
  refine own_by (fun t k => XS.iand X0.here hx rfl (hb hby at_7) rfl k) ?_
  show own_Go p.tables e below K (s₁.setTop (mkF m 8 #[.val (.int q1), .val (.int q2), .val (.int q3), .val (.int (q3 &&& (3 : Int32))), .unset, .unset, .unset, .unset, .unset, .unset, .unset, .unset, .unset, .unset, .unset] [(.int (q1 &&& (15 : Int32)))]))
  refine own_by (fun t k => XS.bipush X0.here hx rfl (hb hby at_8) k) ?_
  show own_Go p.tables e below K (s₁.setTop (mkF m 10 #[.val (.int q1), .val (.int q2), .val (.int q3), .val (.int (q3 &&& (3 : Int32))), .unset, .unset, .unset, .unset, .unset, .unset, .unset, .unset, .unset, .unset, .unset] [(.int (8 : Int32)), (.int (q1 &&& (15 : Int32)))]))
  refine own_by (fun t k => XS.isub X0.here hx rfl (hb hby at_10) rfl k) ?_
  show own_Go p.tables e below K (s₁.setTop (mkF m 11 #[.val (.int q1), .val (.int q2), .val (.int q3), .val (.int (q3 &&& (3 : Int32))), .unset, .unset, .unset, .unset, .unset, .unset, .unset, .unset, .unset, .unset, .unset] [(.int ((q1 &&& (15 : Int32)) - (8 : Int32)))]))
  refine own_by (fun t k => XS.istore X0.here hx rfl (hb hby at_11) rfl (l' := #[.val (.int q1), .val (.int q2), .val (.int q3), .val (.int (q3 &&& (3 : Int32))), .val (.int ((q1 &&& (15 : Int32)) - (8 : Int32))), .unset, .unset, .unset, .unset, .unset, .unset, .unset, .unset, .unset, .unset]) rfl k) ?_
  show own_Go p.tables e below K (s₁.setTop (mkF m 13 #[.val (.int q1), .val (.int q2), .val (.int q3), .val (.int (q3 &&& (3 : Int32))), .val (.int ((q1 &&& (15 : Int32)) - (8 : Int32))), .unset, .unset, .unset, .unset, .unset, .unset, .unset, .unset, .unset, .unset] []))
  refine own_by (fun t k => XS.iloadN X0.here hx rfl (hb hby at_13) rfl k) ?_
  show own_Go p.tables e below K (s₁.setTop (mkF m 14 #[.val (.int q1), .val (.int q2), .val (.int q3), .val (.int (q3 &&& (3 : Int32))), .val (.int ((q1 &&& (15 : Int32)) - (8 : Int32))), .unset, .unset, .unset, .unset, .unset, .unset, .unset, .unset, .unset, .unset] [(.int q1)]))
  refine own_by (fun t k => XS.iconst X0.here hx rfl (hb hby at_14) k) ?_
  show own_Go p.tables e below K (s₁.setTop (mkF m 15 #[.val (.int q1), .val (.int q2), .val (.int q3), .val (.int (q3 &&& (3 : Int32))), .val (.int ((q1 &&& (15 : Int32)) - (8 : Int32))), .unset, .unset, .unset, .unset, .unset, .unset, .unset, .unset, .unset, .unset] [(.int (4 : Int32)), (.int q1)]))
  refine own_by (fun t k => XS.ishr X0.here hx rfl (hb hby at_15) rfl k) ?_
  show own_Go p.tables e below K (s₁.setTop (mkF m 16 #[.val (.int q1), .val (.int q2), .val (.int q3), .val (.int (q3 &&& (3 : Int32))), .val (.int ((q1 &&& (15 : Int32)) - (8 : Int32))), .unset, .unset, .unset, .unset, .unset, .unset, .unset, .unset, .unset, .unset] [(.int (q1 >>> ((4 : Int32) &&& 31)))]))
  refine own_by (fun t k => XS.bipush X0.here hx rfl (hb hby at_16) k) ?_
  show own_Go p.tables e below K (s₁.setTop (mkF m 18 #[.val (.int q1), .val (.int q2), .val (.int q3), .val (.int (q3 &&& (3 : Int32))), .val (.int ((q1 &&& (15 : Int32)) - (8 : Int32))), .unset, .unset, .unset, .unset, .unset, .unset, .unset, .unset, .unset, .unset] [(.int (15 : Int32)), (.int (q1 >>> ((4 : Int32) &&& 31)))]))
  refine own_by (fun t k => XS.iand X0.here hx rfl (hb hby at_18) rfl k) ?_
  show own_Go p.tables e below K (s₁.setTop (mkF m 19 #[.val (.int q1), .val (.int q2), .val (.int q3), .val (.int (q3 &&& (3 : Int32))), .val (.int ((q1 &&& (15 : Int32)) - (8 : Int32))), .unset, .unset, .unset, .unset, .unset, .unset, .unset, .unset, .unset, .unset] [(.int ((q1 >>> ((4 : Int32) &&& 31)) &&& (15 : Int32)))]))
  refine own_by (fun t k => XS.bipush X0.here hx rfl (hb hby at_19) k) ?_
  show own_Go p.tables e below K (s₁.setTop (mkF m 21 #[.val (.int q1), .val (.int q2), .val (.int q3), .val (.int (q3 &&& (3 : Int32))), .val (.int ((q1 &&& (15 : Int32)) - (8 : Int32))), .unset, .unset, .unset, .unset, .unset, .unset, .unset, .unset, .unset, .unset] [(.int (8 : Int32)), (.int ((q1 >>> ((4 : Int32) &&& 31)) &&& (15 : Int32)))]))
  refine own_by (fun t k => XS.isub X0.here hx rfl (hb hby at_21) rfl k) ?_
  show own_Go p.tables e below K (s₁.setTop (mkF m 22 #[.val (.int q1), .val (.int q2), .val (.int q3), .val (.int (q3 &&& (3 : Int32))), .val (.int ((q1 &&& (15 : Int32)) - (8 : Int32))), .unset, .unset, .unset, .unset, .unset, .unset, .unset, .unset, .unset, .unset] [(.int (((q1 >>> ((4 : Int32) &&& 31)) &&& (15 : Int32)) - (8 : Int32)))]))
  refine own_by (fun t k => XS.istore X0.here hx rfl (hb hby at_22) rfl (l' := #[.val (.int q1), .val (.int q2), .val (.int q3), .val (.int (q3 &&& (3 : Int32))), .val (.int ((q1 &&& (15 : Int32)) - (8 : Int32))), .val (.int (((q1 >>> ((4 : Int32) &&& 31)) &&& (15 : Int32)) - (8 : Int32))), .unset, .unset, .unset, .unset, .unset, .unset, .unset, .unset, .unset]) rfl k) ?_
  show own_Go p.tables e below K (s₁.setTop (mkF m 24 #[.val (.int q1), .val (.int q2), .val (.int q3), .val (.int (q3 &&& (3 : Int32))), .val (.int ((q1 &&& (15 : Int32)) - (8 : Int32))), .val (.int (((q1 >>> ((4 : Int32) &&& 31)) &&& (15 : Int32)) - (8 : Int32))), .unset, .unset, .unset, .unset, .unset, .unset, .unset, .unset, .unset] []))
  refine own_by (fun t k => XS.iloadN X0.here hx rfl (hb hby at_24) rfl k) ?_
  show own_Go p.tables e below K (s₁.setTop (mkF m 25 #[.val (.int q1), .val (.int q2), .val (.int q3), .val (.int (q3 &&& (3 : Int32))), .val (.int ((q1 &&& (15 : Int32)) - (8 : Int32))), .val (.int (((q1 >>> ((4 : Int32) &&& 31)) &&& (15 : Int32)) - (8 : Int32))), .unset, .unset, .unset, .unset, .unset, .unset, .unset, .unset, .unset] [(.int q1)]))
  refine own_by (fun t k => XS.bipush X0.here hx rfl (hb hby at_25) k) ?_
  show own_Go p.tables e below K (s₁.setTop (mkF m 27 #[.val (.int q1), .val (.int q2), .val (.int q3), .val (.int (q3 &&& (3 : Int32))), .val (.int ((q1 &&& (15 : Int32)) - (8 : Int32))), .val (.int (((q1 >>> ((4 : Int32) &&& 31)) &&& (15 : Int32)) - (8 : Int32))), .unset, .unset, .unset, .unset, .unset, .unset, .unset, .unset, .unset] [(.int (8 : Int32)), (.int q1)]))
  refine own_by (fun t k => XS.ishr X0.here hx rfl (hb hby at_27) rfl k) ?_
  show own_Go p.tables e below K (s₁.setTop (mkF m 28 #[.val (.int q1), .val (.int q2), .val (.int q3), .val (.int (q3 &&& (3 : Int32))), .val (.int ((q1 &&& (15 : Int32)) - (8 : Int32))), .val (.int (((q1 >>> ((4 : Int32) &&& 31)) &&& (15 : Int32)) - (8 : Int32))), .unset, .unset, .unset, .unset, .unset, .unset, .unset, .unset, .unset] [(.int (q1 >>> ((8 : Int32) &&& 31)))]))
  refine own_by (fun t k => XS.bipush X0.here hx rfl (hb hby at_28) k) ?_
  show own_Go p.tables e below K (s₁.setTop (mkF m 30 #[.val (.int q1), .val (.int q2), .val (.int q3), .val (.int (q3 &&& (3 : Int32))), .val (.int ((q1 &&& (15 : Int32)) - (8 : Int32))), .val (.int (((q1 >>> ((4 : Int32) &&& 31)) &&& (15 : Int32)) - (8 : Int32))), .unset, .unset, .unset, .unset, .unset, .unset, .unset, .unset, .unset] [(.int (15 : Int32)), (.int (q1 >>> ((8 : Int32) &&& 31)))]))
  refine own_by (fun t k => XS.iand X0.here hx rfl (hb hby at_30) rfl k) ?_
  show own_Go p.tables e below K (s₁.setTop (mkF m 31 #[.val (.int q1), .val (.int q2), .val (.int q3), .val (.int (q3 &&& (3 : Int32))), .val (.int ((q1 &&& (15 : Int32)) - (8 : Int32))), .val (.int (((q1 >>> ((4 : Int32) &&& 31)) &&& (15 : Int32)) - (8 : Int32))), .unset, .unset, .unset, .unset, .unset, .unset, .unset, .unset, .unset] [(.int ((q1 >>> ((8 : Int32) &&& 31)) &&& (15 : Int32)))]))
  refine own_by (fun t k => XS.bipush X0.here hx rfl (hb hby at_31) k) ?_
  show own_Go p.tables e below K (s₁.setTop (mkF m 33 #[.val (.int q1), .val (.int q2), .val (.int q3), .val (.int (q3 &&& (3 : Int32))), .val (.int ((q1 &&& (15 : Int32)) - (8 : Int32))), .val (.int (((q1 >>> ((4 : Int32) &&& 31)) &&& (15 : Int32)) - (8 : Int32))), .unset, .unset, .unset, .unset, .unset, .unset, .unset, .unset, .unset] [(.int (8 : Int32)), (.int ((q1 >>> ((8 : Int32) &&& 31)) &&& (15 : Int32)))]))
  refine own_by (fun t k => XS.isub X0.here hx rfl (hb hby at_33) rfl k) ?_
  show own_Go p.tables e below K (s₁.setTop (mkF m 34 #[.val (.int q1), .val (.int q2), .val (.int q3), .val (.int (q3 &&& (3 : Int32))), .val (.int ((q1 &&& (15 : Int32)) - (8 : Int32))), .val (.int (((q1 >>> ((4 : Int32) &&& 31)) &&& (15 : Int32)) - (8 : Int32))), .unset, .unset, .unset, .unset, .unset, .unset, .unset, .unset, .unset] [(.int (((q1 >>> ((8 : Int32) &&& 31)) &&& (15 : Int32)) - (8 : Int32)))]))
  refine own_by (fun t k => XS.istore X0.here hx rfl (hb hby at_34) rfl (l' := #[.val (.int q1), .val (.int q2), .val (.int q3), .val (.int (q3 &&& (3 : Int32))), .val (.int ((q1 &&& (15 : Int32)) - (8 : Int32))), .val (.int (((q1 >>> ((4 : Int32) &&& 31)) &&& (15 : Int32)) - (8 : Int32))), .val (.int (((q1 >>> ((8 : Int32) &&& 31)) &&& (15 : Int32)) - (8 : Int32))), .unset, .unset, .unset, .unset, .unset, .unset, .unset, .unset]) rfl k) ?_
  show own_Go p.tables e below K (s₁.setTop (mkF m 36 #[.val (.int q1), .val (.int q2), .val (.int q3), .val (.int (q3 &&& (3 : Int32))), .val (.int ((q1 &&& (15 : Int32)) - (8 : Int32))), .val (.int (((q1 >>> ((4 : Int32) &&& 31)) &&& (15 : Int32)) - (8 : Int32))), .val (.int (((q1 >>> ((8 : Int32) &&& 31)) &&& (15 : Int32)) - (8 : Int32))), .unset, .unset, .unset, .unset, .unset, .unset, .unset, .unset] []))
  refine own_by (fun t k => XS.iloadN X0.here hx rfl (hb hby at_36) rfl k) ?_
  show own_Go p.tables e below K (s₁.setTop (mkF m 37 #[.val (.int q1), .val (.int q2), .val (.int q3), .val (.int (q3 &&& (3 : Int32))), .val (.int ((q1 &&& (15 : Int32)) - (8 : Int32))), .val (.int (((q1 >>> ((4 : Int32) &&& 31)) &&& (15 : Int32)) - (8 : Int32))), .val (.int (((q1 >>> ((8 : Int32) &&& 31)) &&& (15 : Int32)) - (8 : Int32))), .unset, .unset, .unset, .unset, .unset, .unset, .unset, .unset] [(.int q2)]))
  refine own_by (fun t k => XS.bipush X0.here hx rfl (hb hby at_37) k) ?_
  show own_Go p.tables e below K (s₁.setTop (mkF m 39 #[.val (.int q1), .val (.int q2), .val (.int q3), .val (.int (q3 &&& (3 : Int32))), .val (.int ((q1 &&& (15 : Int32)) - (8 : Int32))), .val (.int (((q1 >>> ((4 : Int32) &&& 31)) &&& (15 : Int32)) - (8 : Int32))), .val (.int (((q1 >>> ((8 : Int32) &&& 31)) &&& (15 : Int32)) - (8 : Int32))), .unset, .unset, .unset, .unset, .unset, .unset, .unset, .unset] [(.int (15 : Int32)), (.int q2)]))
  refine own_by (fun t k => XS.iand X0.here hx rfl (hb hby at_39) rfl k) ?_
  show own_Go p.tables e below K (s₁.setTop (mkF m 40 #[.val (.int q1), .val (.int q2), .val (.int q3), .val (.int (q3 &&& (3 : Int32))), .val (.int ((q1 &&& (15 : Int32)) - (8 : Int32))), .val (.int (((q1 >>> ((4 : Int32) &&& 31)) &&& (15 : Int32)) - (8 : Int32))), .val (.int (((q1 >>> ((8 : Int32) &&& 31)) &&& (15 : Int32)) - (8 : Int32))), .unset, .unset, .unset, .unset, .unset, .unset, .unset, .unset] [(.int (q2 &&& (15 : Int32)))]))
  refine own_by (fun t k => XS.bipush X0.here hx rfl (hb hby at_40) k) ?_
  show own_Go p.tables e below K (s₁.setTop (mkF m 42 #[.val (.int q1), .val (.int q2), .val (.int q3), .val (.int (q3 &&& (3 : Int32))), .val (.int ((q1 &&& (15 : Int32)) - (8 : Int32))), .val (.int (((q1 >>> ((4 : Int32) &&& 31)) &&& (15 : Int32)) - (8 : Int32))), .val (.int (((q1 >>> ((8 : Int32) &&& 31)) &&& (15 : Int32)) - (8 : Int32))), .unset, .unset, .unset, .unset, .unset, .unset, .unset, .unset] [(.int (8 : Int32)), (.int (q2 &&& (15 : Int32)))]))
  refine own_by (fun t k => XS.isub X0.here hx rfl (hb hby at_42) rfl k) ?_
  show own_Go p.tables e below K (s₁.setTop (mkF m 43 #[.val (.int q1), .val (.int q2), .val (.int q3), .val (.int (q3 &&& (3 : Int32))), .val (.int ((q1 &&& (15 : Int32)) - (8 : Int32))), .val (.int (((q1 >>> ((4 : Int32) &&& 31)) &&& (15 : Int32)) - (8 : Int32))), .val (.int (((q1 >>> ((8 : Int32) &&& 31)) &&& (15 : Int32)) - (8 : Int32))), .unset, .unset, .unset, .unset, .unset, .unset, .unset, .unset] [(.int ((q2 &&& (15 : Int32)) - (8 : Int32)))]))
  refine own_by (fun t k => XS.istore X0.here hx rfl (hb hby at_43) rfl (l' := #[.val (.int q1), .val (.int q2), .val (.int q3), .val (.int (q3 &&& (3 : Int32))), .val (.int ((q1 &&& (15 : Int32)) - (8 : Int32))), .val (.int (((q1 >>> ((4 : Int32) &&& 31)) &&& (15 : Int32)) - (8 : Int32))), .val (.int (((q1 >>> ((8 : Int32) &&& 31)) &&& (15 : Int32)) - (8 : Int32))), .val (.int ((q2 &&& (15 : Int32)) - (8 : Int32))), .unset, .unset, .unset, .unset, .unset, .unset, .unset]) rfl k) ?_
  show own_Go p.tables e below K (s₁.setTop (mkF m 45 #[.val (.int q1), .val (.int q2), .val (.int q3), .val (.int (q3 &&& (3 : Int32))), .val (.int ((q1 &&& (15 : Int32)) - (8 : Int32))), .val (.int (((q1 >>> ((4 : Int32) &&& 31)) &&& (15 : Int32)) - (8 : Int32))), .val (.int (((q1 >>> ((8 : Int32) &&& 31)) &&& (15 : Int32)) - (8 : Int32))), .val (.int ((q2 &&& (15 : Int32)) - (8 : Int32))), .unset, .unset, .unset, .unset, .unset, .unset, .unset] []))
  refine own_by (fun t k => XS.iloadN X0.here hx rfl (hb hby at_45) rfl k) ?_
  show own_Go p.tables e below K (s₁.setTop (mkF m 46 #[.val (.int q1), .val (.int q2), .val (.int q3), .val (.int (q3 &&& (3 : Int32))), .val (.int ((q1 &&& (15 : Int32)) - (8 : Int32))), .val (.int (((q1 >>> ((4 : Int32) &&& 31)) &&& (15 : Int32)) - (8 : Int32))), .val (.int (((q1 >>> ((8 : Int32) &&& 31)) &&& (15 : Int32)) - (8 : Int32))), .val (.int ((q2 &&& (15 : Int32)) - (8 : Int32))), .unset, .unset, .unset, .unset, .unset, .unset, .unset] [(.int q2)]))
  refine own_by (fun t k => XS.iconst X0.here hx rfl (hb hby at_46) k) ?_
  show own_Go p.tables e below K (s₁.setTop (mkF m 47 #[.val (.int q1), .val (.int q2), .val (.int q3), .val (.int (q3 &&& (3 : Int32))), .val (.int ((q1 &&& (15 : Int32)) - (8 : Int32))), .val (.int (((q1 >>> ((4 : Int32) &&& 31)) &&& (15 : Int32)) - (8 : Int32))), .val (.int (((q1 >>> ((8 : Int32) &&& 31)) &&& (15 : Int32)) - (8 : Int32))), .val (.int ((q2 &&& (15 : Int32)) - (8 : Int32))), .unset, .unset, .unset, .unset, .unset, .unset, .unset] [(.int (4 : Int32)), (.int q2)]))
  refine own_by (fun t k => XS.ishr X0.here hx rfl (hb hby at_47) rfl k) ?_
  show own_Go p.tables e below K (s₁.setTop (mkF m 48 #[.val (.int q1), .val (.int q2), .val (.int q3), .val (.int (q3 &&& (3 : Int32))), .val (.int ((q1 &&& (15 : Int32)) - (8 : Int32))), .val (.int (((q1 >>> ((4 : Int32) &&& 31)) &&& (15 : Int32)) - (8 : Int32))), .val (.int (((q1 >>> ((8 : Int32) &&& 31)) &&& (15 : Int32)) - (8 : Int32))), .val (.int ((q2 &&& (15 : Int32)) - (8 : Int32))), .unset, .unset, .unset, .unset, .unset, .unset, .unset] [(.int (q2 >>> ((4 : Int32) &&& 31)))]))
  refine own_by (fun t k => XS.bipush X0.here hx rfl (hb hby at_48) k) ?_
  show own_Go p.tables e below K (s₁.setTop (mkF m 50 #[.val (.int q1), .val (.int q2), .val (.int q3), .val (.int (q3 &&& (3 : Int32))), .val (.int ((q1 &&& (15 : Int32)) - (8 : Int32))), .val (.int (((q1 >>> ((4 : Int32) &&& 31)) &&& (15 : Int32)) - (8 : Int32))), .val (.int (((q1 >>> ((8 : Int32) &&& 31)) &&& (15 : Int32)) - (8 : Int32))), .val (.int ((q2 &&& (15 : Int32)) - (8 : Int32))), .unset, .unset, .unset, .unset, .unset, .unset, .unset] [(.int (15 : Int32)), (.int (q2 >>> ((4 : Int32) &&& 31)))]))
  refine own_by (fun t k => XS.iand X0.here hx rfl (hb hby at_50) rfl k) ?_
  show own_Go p.tables e below K (s₁.setTop (mkF m 51 #[.val (.int q1), .val (.int q2), .val (.int q3), .val (.int (q3 &&& (3 : Int32))), .val (.int ((q1 &&& (15 : Int32)) - (8 : Int32))), .val (.int (((q1 >>> ((4 : Int32) &&& 31)) &&& (15 : Int32)) - (8 : Int32))), .val (.int (((q1 >>> ((8 : Int32) &&& 31)) &&& (15 : Int32)) - (8 : Int32))), .val (.int ((q2 &&& (15 : Int32)) - (8 : Int32))), .unset, .unset, .unset, .unset, .unset, .unset, .unset] [(.int ((q2 >>> ((4 : Int32) &&& 31)) &&& (15 : Int32)))]))
  refine own_by (fun t k => XS.bipush X0.here hx rfl (hb hby at_51) k) ?_
  show own_Go p.tables e below K (s₁.setTop (mkF m 53 #[.val (.int q1), .val (.int q2), .val (.int q3), .val (.int (q3 &&& (3 : Int32))), .val (.int ((q1 &&& (15 : Int32)) - (8 : Int32))), .val (.int (((q1 >>> ((4 : Int32) &&& 31)) &&& (15 : Int32)) - (8 : Int32))), .val (.int (((q1 >>> ((8 : Int32) &&& 31)) &&& (15 : Int32)) - (8 : Int32))), .val (.int ((q2 &&& (15 : Int32)) - (8 : Int32))), .unset, .unset, .unset, .unset, .unset, .unset, .unset] [(.int (8 : Int32)), (.int ((q2 >>> ((4 : Int32) &&& 31)) &&& (15 : Int32)))]))
  refine own_by (fun t k => XS.isub X0.here hx rfl (hb hby at_53) rfl k) ?_
  show own_Go p.tables e below K (s₁.setTop (mkF m 54 #[.val (.int q1), .val (.int q2), .val (.int q3), .val (.int (q3 &&& (3 : Int32))), .val (.int ((q1 &&& (15 : Int32)) - (8 : Int32))), .val (.int (((q1 >>> ((4 : Int32) &&& 31)) &&& (15 : Int32)) - (8 : Int32))), .val (.int (((q1 >>> ((8 : Int32) &&& 31)) &&& (15 : Int32)) - (8 : Int32))), .val (.int ((q2 &&& (15 : Int32)) - (8 : Int32))), .unset, .unset, .unset, .unset, .unset, .unset, .unset] [(.int (((q2 >>> ((4 : Int32) &&& 31)) &&& (15 : Int32)) - (8 : Int32)))]))
  refine own_by (fun t k => XS.istore X0.here hx rfl (hb hby at_54) rfl (l' := #[.val (.int q1), .val (.int q2), .val (.int q3), .val (.int (q3 &&& (3 : Int32))), .val (.int ((q1 &&& (15 : Int32)) - (8 : Int32))), .val (.int (((q1 >>> ((4 : Int32) &&& 31)) &&& (15 : Int32)) - (8 : Int32))), .val (.int (((q1 >>> ((8 : Int32) &&& 31)) &&& (15 : Int32)) - (8 : Int32))), .val (.int ((q2 &&& (15 : Int32)) - (8 : Int32))), .val (.int (((q2 >>> ((4 : Int32) &&& 31)) &&& (15 : Int32)) - (8 : Int32))), .unset, .unset, .unset, .unset, .unset, .unset]) rfl k) ?_
  show own_Go p.tables e below K (s₁.setTop (mkF m 56 #[.val (.int q1), .val (.int q2), .val (.int q3), .val (.int (q3 &&& (3 : Int32))), .val (.int ((q1 &&& (15 : Int32)) - (8 : Int32))), .val (.int (((q1 >>> ((4 : Int32) &&& 31)) &&& (15 : Int32)) - (8 : Int32))), .val (.int (((q1 >>> ((8 : Int32) &&& 31)) &&& (15 : Int32)) - (8 : Int32))), .val (.int ((q2 &&& (15 : Int32)) - (8 : Int32))), .val (.int (((q2 >>> ((4 : Int32) &&& 31)) &&& (15 : Int32)) - (8 : Int32))), .unset, .unset, .unset, .unset, .unset, .unset] []))
  refine own_by (fun t k => XS.iloadN X0.here hx rfl (hb hby at_56) rfl k) ?_
  show own_Go p.tables e below K (s₁.setTop (mkF m 57 #[.val (.int q1), .val (.int q2), .val (.int q3), .val (.int (q3 &&& (3 : Int32))), .val (.int ((q1 &&& (15 : Int32)) - (8 : Int32))), .val (.int (((q1 >>> ((4 : Int32) &&& 31)) &&& (15 : Int32)) - (8 : Int32))), .val (.int (((q1 >>> ((8 : Int32) &&& 31)) &&& (15 : Int32)) - (8 : Int32))), .val (.int ((q2 &&& (15 : Int32)) - (8 : Int32))), .val (.int (((q2 >>> ((4 : Int32) &&& 31)) &&& (15 : Int32)) - (8 : Int32))), .unset, .unset, .unset, .unset, .unset, .unset] [(.int q2)]))
  refine own_by (fun t k => XS.bipush X0.here hx rfl (hb hby at_57) k) ?_
  show own_Go p.tables e below K (s₁.setTop (mkF m 59 #[.val (.int q1), .val (.int q2), .val (.int q3), .val (.int (q3 &&& (3 : Int32))), .val (.int ((q1 &&& (15 : Int32)) - (8 : Int32))), .val (.int (((q1 >>> ((4 : Int32) &&& 31)) &&& (15 : Int32)) - (8 : Int32))), .val (.int (((q1 >>> ((8 : Int32) &&& 31)) &&& (15 : Int32)) - (8 : Int32))), .val (.int ((q2 &&& (15 : Int32)) - (8 : Int32))), .val (.int (((q2 >>> ((4 : Int32) &&& 31)) &&& (15 : Int32)) - (8 : Int32))), .unset, .unset, .unset, .unset, .unset, .unset] [(.int (8 : Int32)), (.int q2)]))
  refine own_by (fun t k => XS.ishr X0.here hx rfl (hb hby at_59) rfl k) ?_
  show own_Go p.tables e below K (s₁.setTop (mkF m 60 #[.val (.int q1), .val (.int q2), .val (.int q3), .val (.int (q3 &&& (3 : Int32))), .val (.int ((q1 &&& (15 : Int32)) - (8 : Int32))), .val (.int (((q1 >>> ((4 : Int32) &&& 31)) &&& (15 : Int32)) - (8 : Int32))), .val (.int (((q1 >>> ((8 : Int32) &&& 31)) &&& (15 : Int32)) - (8 : Int32))), .val (.int ((q2 &&& (15 : Int32)) - (8 : Int32))), .val (.int (((q2 >>> ((4 : Int32) &&& 31)) &&& (15 : Int32)) - (8 : Int32))), .unset, .unset, .unset, .unset, .unset, .unset] [(.int (q2 >>> ((8 : Int32) &&& 31)))]))
  refine own_by (fun t k => XS.bipush X0.here hx rfl (hb hby at_60) k) ?_
  show own_Go p.tables e below K (s₁.setTop (mkF m 62 #[.val (.int q1), .val (.int q2), .val (.int q3), .val (.int (q3 &&& (3 : Int32))), .val (.int ((q1 &&& (15 : Int32)) - (8 : Int32))), .val (.int (((q1 >>> ((4 : Int32) &&& 31)) &&& (15 : Int32)) - (8 : Int32))), .val (.int (((q1 >>> ((8 : Int32) &&& 31)) &&& (15 : Int32)) - (8 : Int32))), .val (.int ((q2 &&& (15 : Int32)) - (8 : Int32))), .val (.int (((q2 >>> ((4 : Int32) &&& 31)) &&& (15 : Int32)) - (8 : Int32))), .unset, .unset, .unset, .unset, .unset, .unset] [(.int (15 : Int32)), (.int (q2 >>> ((8 : Int32) &&& 31)))]))
  refine own_by (fun t k => XS.iand X0.here hx rfl (hb hby at_62) rfl k) ?_
  show own_Go p.tables e below K (s₁.setTop (mkF m 63 #[.val (.int q1), .val (.int q2), .val (.int q3), .val (.int (q3 &&& (3 : Int32))), .val (.int ((q1 &&& (15 : Int32)) - (8 : Int32))), .val (.int (((q1 >>> ((4 : Int32) &&& 31)) &&& (15 : Int32)) - (8 : Int32))), .val (.int (((q1 >>> ((8 : Int32) &&& 31)) &&& (15 : Int32)) - (8 : Int32))), .val (.int ((q2 &&& (15 : Int32)) - (8 : Int32))), .val (.int (((q2 >>> ((4 : Int32) &&& 31)) &&& (15 : Int32)) - (8 : Int32))), .unset, .unset, .unset, .unset, .unset, .unset] [(.int ((q2 >>> ((8 : Int32) &&& 31)) &&& (15 : Int32)))]))
  refine own_by (fun t k => XS.bipush X0.here hx rfl (hb hby at_63) k) ?_
  show own_Go p.tables e below K (s₁.setTop (mkF m 65 #[.val (.int q1), .val (.int q2), .val (.int q3), .val (.int (q3 &&& (3 : Int32))), .val (.int ((q1 &&& (15 : Int32)) - (8 : Int32))), .val (.int (((q1 >>> ((4 : Int32) &&& 31)) &&& (15 : Int32)) - (8 : Int32))), .val (.int (((q1 >>> ((8 : Int32) &&& 31)) &&& (15 : Int32)) - (8 : Int32))), .val (.int ((q2 &&& (15 : Int32)) - (8 : Int32))), .val (.int (((q2 >>> ((4 : Int32) &&& 31)) &&& (15 : Int32)) - (8 : Int32))), .unset, .unset, .unset, .unset, .unset, .unset] [(.int (8 : Int32)), (.int ((q2 >>> ((8 : Int32) &&& 31)) &&& (15 : Int32)))]))
  refine own_by (fun t k => XS.isub X0.here hx rfl (hb hby at_65) rfl k) ?_
  show own_Go p.tables e below K (s₁.setTop (mkF m 66 #[.val (.int q1), .val (.int q2), .val (.int q3), .val (.int (q3 &&& (3 : Int32))), .val (.int ((q1 &&& (15 : Int32)) - (8 : Int32))), .val (.int (((q1 >>> ((4 : Int32) &&& 31)) &&& (15 : Int32)) - (8 : Int32))), .val (.int (((q1 >>> ((8 : Int32) &&& 31)) &&& (15 : Int32)) - (8 : Int32))), .val (.int ((q2 &&& (15 : Int32)) - (8 : Int32))), .val (.int (((q2 >>> ((4 : Int32) &&& 31)) &&& (15 : Int32)) - (8 : Int32))), .unset, .unset, .unset, .unset, .unset, .unset] [(.int (((q2 >>> ((8 : Int32) &&& 31)) &&& (15 : Int32)) - (8 : Int32)))]))
  refine own_by (fun t k => XS.istore X0.here hx rfl (hb hby at_66) rfl (l' := #[.val (.int q1), .val (.int q2), .val (.int q3), .val (.int (q3 &&& (3 : Int32))), .val (.int ((q1 &&& (15 : Int32)) - (8 : Int32))), .val (.int (((q1 >>> ((4 : Int32) &&& 31)) &&& (15 : Int32)) - (8 : Int32))), .val (.int (((q1 >>> ((8 : Int32) &&& 31)) &&& (15 : Int32)) - (8 : Int32))), .val (.int ((q2 &&& (15 : Int32)) - (8 : Int32))), .val (.int (((q2 >>> ((4 : Int32) &&& 31)) &&& (15 : Int32)) - (8 : Int32))), .val (.int (((q2 >>> ((8 : Int32) &&& 31)) &&& (15 : Int32)) - (8 : Int32))), .unset, .unset, .unset, .unset, .unset]) rfl k) ?_
  have J68 : ∀ nn a0 a1 a2 b0 b1 b2 : Int32, (nn = 0 ∨ nn = 1 ∨ nn = 2 ∨ nn = 3) → own_Go p.tables e below K (s₁.setTop (mkF m 68 #[.val (.int q1), .val (.int q2), .val (.int q3), .val (.int nn), .val (.int a0), .val (.int a1), .val (.int a2), .val (.int b0), .val (.int b1), .val (.int b2), .unset, .unset, .unset, .unset, .unset] [])) := by
    intro nn a0 a1 a2 b0 b1 b2 hnn
    rcases hnn with rfl | rfl | rfl | rfl
    · show own_Go p.tables e below K (s₁.setTop (mkF m 68 #[.val (.int q1), .val (.int q2), .val (.int q3), .val (.int (0 : Int32)), .val (.int a0), .val (.int a1), .val (.int a2), .val (.int b0), .val (.int b1), .val (.int b2), .unset, .unset, .unset, .unset, .unset] []))
      refine own_by (fun t k => XS.iloadN X0.here hx rfl (hb hby at_68) rfl k) ?_
      show own_Go p.tables e below K (s₁.setTop (mkF m 69 #[.val (.int q1), .val (.int q2), .val (.int q3), .val (.int (0 : Int32)), .val (.int a0), .val (.int a1), .val (.int a2), .val (.int b0), .val (.int b1), .val (.int b2), .unset, .unset, .unset, .unset, .unset] [(.int (0 : Int32))]))
      refine own_by (fun t k => XS.iload X0.here hx rfl (hb hby at_69) rfl k) ?_
      show own_Go p.tables e below K (s₁.setTop (mkF m 71 #[.val (.int q1), .val (.int q2), .val (.int q3), .val (.int (0 : Int32)), .val (.int a0), .val (.int a1), .val (.int a2), .val (.int b0), .val (.int b1), .val (.int b2), .unset, .unset, .unset, .unset, .unset] [(.int a0), (.int (0 : Int32))]))
      refine own_by (fun t k => XS.iload X0.here hx rfl (hb hby at_71) rfl k) ?_
      show own_Go p.tables e below K (s₁.setTop (mkF m 73 #[.val (.int q1), .val (.int q2), .val (.int q3), .val (.int (0 : Int32)), .val (.int a0), .val (.int a1), .val (.int a2), .val (.int b0), .val (.int b1), .val (.int b2), .unset, .unset, .unset, .unset, .unset] [(.int a1), (.int a0), (.int (0 : Int32))]))
      refine own_by (fun t k => XS.iload X0.here hx rfl (hb hby at_73) rfl k) ?_
      show own_Go p.tables e below K (s₁.setTop (mkF m 75 #[.val (.int q1), .val (.int q2), .val (.int q3), .val (.int (0 : Int32)), .val (.int a0), .val (.int a1), .val (.int a2), .val (.int b0), .val (.int b1), .val (.int b2), .unset, .unset, .unset, .unset, .unset] [(.int a2), (.int a1), (.int a0), (.int (0 : Int32))]))
      obtain ⟨_, _, ⟨T81, L81, k81, n81⟩, -, X81, ⟨Lc81, hQ81, l81, y81, z81⟩, st81⟩ := Jvm.LawKit.callS X0 hx (y := (⟨"com/example/manyfront/manyfront/sorting/NondominatedSortingDominatesPinLaw", "make", "(IIII)[D"⟩ : MethodName)) hown (mvT hZ (hw _ (List.mem_of_getElem? (i := 0) rfl))) (mvT hZ (hw _ (List.mem_of_getElem? (i := 1) rfl))) (mvT hZ (hw _ (List.mem_of_getElem? (i := 2) rfl))) (mvT hZ (hw _ (List.mem_of_getElem? (i := 3) rfl))) (by decide) (backOf (W := 0) (own_rmmk0 l Z aw hw [] a0 a1 a2 h0 n0 Z0) hZ (hw _ (List.mem_of_getElem? (i := 3) rfl)) (hw _ (List.mem_of_getElem? (i := 2) rfl)) (by decide) (by decide)) (g := (mkF m 75 #[.val (.int q1), .val (.int q2), .val (.int q3), .val (.int (0 : Int32)), .val (.int a0), .val (.int a1), .val (.int a2), .val (.int b0), .val (.int b1), .val (.int b2), .unset, .unset, .unset, .unset, .unset] [(.int a2), (.int a1), (.int a0), (.int (0 : Int32))])) rfl (by rw [hml]; rfl) (argsL := [(.int (0 : Int32)), (.int a0), (.int a1), (.int a2)]) (rest := []) (lenOf own_pd0 rfl) rfl (by show 2 * 0 + _ ≤ _; exact Nat.le_of_eq rfl) (hb hby at_75) (fun _ _ => ⟨rfl, e0, (by decide : 0 + 1 ≤ _), (by decide : 0 + 0 ≤ _)⟩)
      dsimp only [Pt.U, Pt.locs, Pt.cells, Pt.slots] at X81 l81 y81 z81 st81 hQ81
      subst l81 y81 z81
      obtain ⟨r81, k81c, rfl, N81q, Kp81, Vp81⟩ := hQ81
      have N81 := Fr.app N0 N81q
      refine own_by st81 ?_
      have VA := Vp81
      have Z81 := Nat.le_trans Z0 Kp81.1
      show own_Go p.tables e below K (T81.setTop (mkF m 78 #[.val (.int q1), .val (.int q2), .val (.int q3), .val (.int (0 : Int32)), .val (.int a0), .val (.int a1), .val (.int a2), .val (.int b0), .val (.int b1), .val (.int b2), .unset, .unset, .unset, .unset, .unset] [(.ref r81)]))
      refine own_by (fun t k => XS.astore X81.here hx rfl (hb hby at_78) rfl rfl (l' := #[.val (.int q1), .val (.int q2), .val (.int q3), .val (.int (0 : Int32)), .val (.int a0), .val (.int a1), .val (.int a2), .val (.int b0), .val (.int b1), .val (.int b2), .val (.ref r81), .unset, .unset, .unset, .unset]) rfl k) ?_
      show own_Go p.tables e below K (T81.setTop (mkF m 80 #[.val (.int q1), .val (.int q2), .val (.int q3), .val (.int (0 : Int32)), .val (.int a0), .val (.int a1), .val (.int a2), .val (.int b0), .val (.int b1), .val (.int b2), .val (.ref r81), .unset, .unset, .unset, .unset] []))
      refine own_by (fun t k => XS.iloadN X81.here hx rfl (hb hby at_80) rfl k) ?_
      show own_Go p.tables e below K (T81.setTop (mkF m 81 #[.val (.int q1), .val (.int q2), .val (.int q3), .val (.int (0 : Int32)), .val (.int a0), .val (.int a1), .val (.int a2), .val (.int b0), .val (.int b1), .val (.int b2), .val (.ref r81), .unset, .unset, .unset, .unset] [(.int (0 : Int32))]))
      refine own_by (fun t k => XS.iload X81.here hx rfl (hb hby at_81) rfl k) ?_
      show own_Go p.tables e below K (T81.setTop (mkF m 83 #[.val (.int q1), .val (.int q2), .val (.int q3), .val (.int (0 : Int32)), .val (.int a0), .val (.int a1), .val (.int a2), .val (.int b0), .val (.int b1), .val (.int b2), .val (.ref r81), .unset, .unset, .unset, .unset] [(.int b0), (.int (0 : Int32))]))
      refine own_by (fun t k => XS.iload X81.here hx rfl (hb hby at_83) rfl k) ?_
      show own_Go p.tables e below K (T81.setTop (mkF m 85 #[.val (.int q1), .val (.int q2), .val (.int q3), .val (.int (0 : Int32)), .val (.int a0), .val (.int a1), .val (.int a2), .val (.int b0), .val (.int b1), .val (.int b2), .val (.ref r81), .unset, .unset, .unset, .unset] [(.int b1), (.int b0), (.int (0 : Int32))]))
      refine own_by (fun t k => XS.iload X81.here hx rfl (hb hby at_85) rfl k) ?_
      show own_Go p.tables e below K (T81.setTop (mkF m 87 #[.val (.int q1), .val (.int q2), .val (.int q3), .val (.int (0 : Int32)), .val (.int a0), .val (.int a1), .val (.int a2), .val (.int b0), .val (.int b1), .val (.int b2), .val (.ref r81), .unset, .unset, .unset, .unset] [(.int b2), (.int b1), (.int b0), (.int (0 : Int32))]))
      obtain ⟨_, _, ⟨T82, L82, k82, n82⟩, -, X82, ⟨Lc82, hQ82, l82, y82, z82⟩, st82⟩ := Jvm.LawKit.callS X81 hx (y := (⟨"com/example/manyfront/manyfront/sorting/NondominatedSortingDominatesPinLaw", "make", "(IIII)[D"⟩ : MethodName)) hown (mvT hZ (hw _ (List.mem_of_getElem? (i := 0) rfl))) (mvT hZ (hw _ (List.mem_of_getElem? (i := 1) rfl))) (mvT hZ (hw _ (List.mem_of_getElem? (i := 2) rfl))) (mvT hZ (hw _ (List.mem_of_getElem? (i := 3) rfl))) (by decide) (backOf (W := 0) (own_rmmk0 l Z aw hw [] b0 b1 b2 T81.heap n0 Z81) hZ (hw _ (List.mem_of_getElem? (i := 3) rfl)) (hw _ (List.mem_of_getElem? (i := 2) rfl)) (by decide) (by decide)) (g := (mkF m 87 #[.val (.int q1), .val (.int q2), .val (.int q3), .val (.int (0 : Int32)), .val (.int a0), .val (.int a1), .val (.int a2), .val (.int b0), .val (.int b1), .val (.int b2), .val (.ref r81), .unset, .unset, .unset, .unset] [(.int b2), (.int b1), (.int b0), (.int (0 : Int32))])) rfl (by rw [hml]; rfl) (argsL := [(.int (0 : Int32)), (.int b0), (.int b1), (.int b2)]) (rest := []) (lenOf own_pd0 rfl) rfl (by show 2 * 0 + _ ≤ _; exact Nat.le_of_eq rfl) (hb hby at_87) (fun _ _ => ⟨rfl, rfl, (by decide : 1 + 1 ≤ _), (by decide : 0 + 0 ≤ _)⟩)
      dsimp only [Pt.U, Pt.locs, Pt.cells, Pt.slots] at X82 l82 y82 z82 st82 hQ82
      subst l82 y82 z82
      obtain ⟨r82, k82c, rfl, N82q, Kp82, Vp82⟩ := hQ82
      have N82 := Fr.app N81 N82q
      refine own_by st82 ?_
      have VAk := VA.keep Kp82 nin0
      have VB := Vp82
      have Z82 := Nat.le_trans Z81 Kp82.1
      show own_Go p.tables e below K (T82.setTop (mkF m 90 #[.val (.int q1), .val (.int q2), .val (.int q3), .val (.int (0 : Int32)), .val (.int a0), .val (.int a1), .val (.int a2), .val (.int b0), .val (.int b1), .val (.int b2), .val (.ref r81), .unset, .unset, .unset, .unset] [(.ref r82)]))
      refine own_by (fun t k => XS.astore X82.here hx rfl (hb hby at_90) rfl rfl (l' := #[.val (.int q1), .val (.int q2), .val (.int q3), .val (.int (0 : Int32)), .val (.int a0), .val (.int a1), .val (.int a2), .val (.int b0), .val (.int b1), .val (.int b2), .val (.ref r81), .val (.ref r82), .unset, .unset, .unset]) rfl k) ?_
      show own_Go p.tables e below K (T82.setTop (mkF m 92 #[.val (.int q1), .val (.int q2), .val (.int q3), .val (.int (0 : Int32)), .val (.int a0), .val (.int a1), .val (.int a2), .val (.int b0), .val (.int b1), .val (.int b2), .val (.ref r81), .val (.ref r82), .unset, .unset, .unset] []))
      refine own_by (fun t k => XS.aload X82.here hx rfl (hb hby at_92) rfl rfl k) ?_
      show own_Go p.tables e below K (T82.setTop (mkF m 94 #[.val (.int q1), .val (.int q2), .val (.int q3), .val (.int (0 : Int32)), .val (.int a0), .val (.int a1), .val (.int a2), .val (.int b0), .val (.int b1), .val (.int b2), .val (.ref r81), .val (.ref r82), .unset, .unset, .unset] [(.ref r81)]))
      refine own_by (fun t k => XS.aload X82.here hx rfl (hb hby at_94) rfl rfl k) ?_
      show own_Go p.tables e below K (T82.setTop (mkF m 96 #[.val (.int q1), .val (.int q2), .val (.int q3), .val (.int (0 : Int32)), .val (.int a0), .val (.int a1), .val (.int a2), .val (.int b0), .val (.int b1), .val (.int b2), .val (.ref r81), .val (.ref r82), .unset, .unset, .unset] [(.ref r82), (.ref r81)]))
      obtain ⟨_, _, ⟨T83, L83, k83, n83⟩, -, X83, ⟨Lc83, hQ83, l83, y83, z83⟩, st83⟩ := Jvm.LawKit.callS X82 hx (y := (⟨"com/example/manyfront/manyfront/sorting/NondominatedSorting", "dominates", "([D[D)Z"⟩ : MethodName)) hown (mvT hZ (hw _ (List.mem_of_getElem? (i := 5) rfl))) (mvT hZ (hw _ (List.mem_of_getElem? (i := 6) rfl))) (mvT hZ (hw _ (List.mem_of_getElem? (i := 7) rfl))) (mvT hZ (hw _ (List.mem_of_getElem? (i := 8) rfl))) (by decide) (backOf (W := 0) (own_rmdm0 l Z aw hw [] r81 r82 _ _   T82.heap n0 Z82 VAk VB) hZ (hw _ (List.mem_of_getElem? (i := 8) rfl)) (hw _ (List.mem_of_getElem? (i := 7) rfl)) (by decide) (by decide)) (g := (mkF m 96 #[.val (.int q1), .val (.int q2), .val (.int q3), .val (.int (0 : Int32)), .val (.int a0), .val (.int a1), .val (.int a2), .val (.int b0), .val (.int b1), .val (.int b2), .val (.ref r81), .val (.ref r82), .unset, .unset, .unset] [(.ref r82), (.ref r81)])) rfl (by rw [hml]; rfl) (argsL := [(.ref r81), (.ref r82)]) (rest := []) (lenOf own_pd1 rfl) rfl (by show 2 * 0 + _ ≤ _; exact Nat.le_of_eq rfl) (hb hby at_96) (fun _ _ => ⟨rfl, rfl, (by decide : 2 + 0 ≤ _), (by decide : 0 + 0 ≤ _)⟩)
      dsimp only [Pt.U, Pt.locs, Pt.cells, Pt.slots] at X83 l83 y83 z83 st83 hQ83
      subst l83 y83 z83
      obtain ⟨rfl, N83q, e83⟩ := hQ83
      have N83 := Fr.app N82 N83q
      refine own_by st83 ?_
      show own_Go p.tables e below K (T83.setTop (mkF m 99 #[.val (.int q1), .val (.int q2), .val (.int q3), .val (.int (0 : Int32)), .val (.int a0), .val (.int a1), .val (.int a2), .val (.int b0), .val (.int b1), .val (.int b2), .val (.ref r81), .val (.ref r82), .unset, .unset, .unset] [(.int (own_dom0  ))]))
      refine own_by (fun t k => XS.istore X83.here hx rfl (hb hby at_99) rfl (l' := #[.val (.int q1), .val (.int q2), .val (.int q3), .val (.int (0 : Int32)), .val (.int a0), .val (.int a1), .val (.int a2), .val (.int b0), .val (.int b1), .val (.int b2), .val (.ref r81), .val (.ref r82), .val (.int (own_dom0  )), .unset, .unset]) rfl k) ?_
      show own_Go p.tables e below K (T83.setTop (mkF m 101 #[.val (.int q1), .val (.int q2), .val (.int q3), .val (.int (0 : Int32)), .val (.int a0), .val (.int a1), .val (.int a2), .val (.int b0), .val (.int b1), .val (.int b2), .val (.ref r81), .val (.ref r82), .val (.int (own_dom0  )), .unset, .unset] []))
      refine own_by (fun t k => XS.iloadN X83.here hx rfl (hb hby at_101) rfl k) ?_
      show own_Go p.tables e below K (T83.setTop (mkF m 102 #[.val (.int q1), .val (.int q2), .val (.int q3), .val (.int (0 : Int32)), .val (.int a0), .val (.int a1), .val (.int a2), .val (.int b0), .val (.int b1), .val (.int b2), .val (.ref r81), .val (.ref r82), .val (.int (own_dom0  )), .unset, .unset] [(.int (0 : Int32))]))
      refine own_by (fun t k => XS.iconst X83.here hx rfl (hb hby at_102) k) ?_
      show own_Go p.tables e below K (T83.setTop (mkF m 103 #[.val (.int q1), .val (.int q2), .val (.int q3), .val (.int (0 : Int32)), .val (.int a0), .val (.int a1), .val (.int a2), .val (.int b0), .val (.int b1), .val (.int b2), .val (.ref r81), .val (.ref r82), .val (.int (own_dom0  )), .unset, .unset] [(.int (1 : Int32)), (.int (0 : Int32))]))
      have hc103 : (0 : Int32) < (1 : Int32) := by decide
      refine own_by (fun t k => XS.icmpYes X83.here hx rfl (pc0 := 103) (pc' := 113) rfl (hb hby at_103) rfl (tlt hc103).1 (by decide) (by decide) k) ?_
      show own_Go p.tables e below K (T83.setTop (mkF m 113 #[.val (.int q1), .val (.int q2), .val (.int q3), .val (.int (0 : Int32)), .val (.int a0), .val (.int a1), .val (.int a2), .val (.int b0), .val (.int b1), .val (.int b2), .val (.ref r81), .val (.ref r82), .val (.int (own_dom0  )), .unset, .unset] []))
      refine own_by (fun t k => XS.iloadN X83.here hx rfl (hb hby at_113) rfl k) ?_
      show own_Go p.tables e below K (T83.setTop (mkF m 114 #[.val (.int q1), .val (.int q2), .val (.int q3), .val (.int (0 : Int32)), .val (.int a0), .val (.int a1), .val (.int a2), .val (.int b0), .val (.int b1), .val (.int b2), .val (.ref r81), .val (.ref r82), .val (.int (own_dom0  )), .unset, .unset] [(.int (0 : Int32))]))
      refine own_by (fun t k => XS.iconst X83.here hx rfl (hb hby at_114) k) ?_
      show own_Go p.tables e below K (T83.setTop (mkF m 115 #[.val (.int q1), .val (.int q2), .val (.int q3), .val (.int (0 : Int32)), .val (.int a0), .val (.int a1), .val (.int a2), .val (.int b0), .val (.int b1), .val (.int b2), .val (.ref r81), .val (.ref r82), .val (.int (own_dom0  )), .unset, .unset] [(.int (2 : Int32)), (.int (0 : Int32))]))
      have hc115 : (0 : Int32) < (2 : Int32) := by decide
      refine own_by (fun t k => XS.icmpYes X83.here hx rfl (pc0 := 115) (pc' := 125) rfl (hb hby at_115) rfl (tlt hc115).1 (by decide) (by decide) k) ?_
      show own_Go p.tables e below K (T83.setTop (mkF m 125 #[.val (.int q1), .val (.int q2), .val (.int q3), .val (.int (0 : Int32)), .val (.int a0), .val (.int a1), .val (.int a2), .val (.int b0), .val (.int b1), .val (.int b2), .val (.ref r81), .val (.ref r82), .val (.int (own_dom0  )), .unset, .unset] []))
      refine own_by (fun t k => XS.iloadN X83.here hx rfl (hb hby at_125) rfl k) ?_
      show own_Go p.tables e below K (T83.setTop (mkF m 126 #[.val (.int q1), .val (.int q2), .val (.int q3), .val (.int (0 : Int32)), .val (.int a0), .val (.int a1), .val (.int a2), .val (.int b0), .val (.int b1), .val (.int b2), .val (.ref r81), .val (.ref r82), .val (.int (own_dom0  )), .unset, .unset] [(.int (0 : Int32))]))
      refine own_by (fun t k => XS.iconst X83.here hx rfl (hb hby at_126) k) ?_
      show own_Go p.tables e below K (T83.setTop (mkF m 127 #[.val (.int q1), .val (.int q2), .val (.int q3), .val (.int (0 : Int32)), .val (.int a0), .val (.int a1), .val (.int a2), .val (.int b0), .val (.int b1), .val (.int b2), .val (.ref r81), .val (.ref r82), .val (.int (own_dom0  )), .unset, .unset] [(.int (3 : Int32)), (.int (0 : Int32))]))
      have hc127 : (0 : Int32) < (3 : Int32) := by decide
      refine own_by (fun t k => XS.icmpYes X83.here hx rfl (pc0 := 127) (pc' := 137) rfl (hb hby at_127) rfl (tlt hc127).1 (by decide) (by decide) k) ?_
      show own_Go p.tables e below K (T83.setTop (mkF m 137 #[.val (.int q1), .val (.int q2), .val (.int q3), .val (.int (0 : Int32)), .val (.int a0), .val (.int a1), .val (.int a2), .val (.int b0), .val (.int b1), .val (.int b2), .val (.ref r81), .val (.ref r82), .val (.int (own_dom0  )), .unset, .unset] []))
      refine own_by (fun t k => XS.iconst X83.here hx rfl (hb hby at_137) k) ?_
      show own_Go p.tables e below K (T83.setTop (mkF m 138 #[.val (.int q1), .val (.int q2), .val (.int q3), .val (.int (0 : Int32)), .val (.int a0), .val (.int a1), .val (.int a2), .val (.int b0), .val (.int b1), .val (.int b2), .val (.ref r81), .val (.ref r82), .val (.int (own_dom0  )), .unset, .unset] [(.int (1 : Int32))]))
      refine own_by (fun t k => XS.goto X83.here hx rfl (pc0 := 138) (pc' := 142) rfl (hb hby at_138) (by decide) (by decide) k) ?_
      show own_Go p.tables e below K (T83.setTop (mkF m 142 #[.val (.int q1), .val (.int q2), .val (.int q3), .val (.int (0 : Int32)), .val (.int a0), .val (.int a1), .val (.int a2), .val (.int b0), .val (.int b1), .val (.int b2), .val (.ref r81), .val (.ref r82), .val (.int (own_dom0  )), .unset, .unset] [(.int (1 : Int32))]))
      refine own_by (fun t k => XS.istore X83.here hx rfl (hb hby at_142) rfl (l' := #[.val (.int q1), .val (.int q2), .val (.int q3), .val (.int (0 : Int32)), .val (.int a0), .val (.int a1), .val (.int a2), .val (.int b0), .val (.int b1), .val (.int b2), .val (.ref r81), .val (.ref r82), .val (.int (own_dom0  )), .val (.int (1 : Int32)), .unset]) rfl k) ?_
      show own_Go p.tables e below K (T83.setTop (mkF m 144 #[.val (.int q1), .val (.int q2), .val (.int q3), .val (.int (0 : Int32)), .val (.int a0), .val (.int a1), .val (.int a2), .val (.int b0), .val (.int b1), .val (.int b2), .val (.ref r81), .val (.ref r82), .val (.int (own_dom0  )), .val (.int (1 : Int32)), .unset] []))
      refine own_by (fun t k => XS.iloadN X83.here hx rfl (hb hby at_144) rfl k) ?_
      show own_Go p.tables e below K (T83.setTop (mkF m 145 #[.val (.int q1), .val (.int q2), .val (.int q3), .val (.int (0 : Int32)), .val (.int a0), .val (.int a1), .val (.int a2), .val (.int b0), .val (.int b1), .val (.int b2), .val (.ref r81), .val (.ref r82), .val (.int (own_dom0  )), .val (.int (1 : Int32)), .unset] [(.int (0 : Int32))]))
      refine own_by (fun t k => XS.iconst X83.here hx rfl (hb hby at_145) k) ?_
      show own_Go p.tables e below K (T83.setTop (mkF m 146 #[.val (.int q1), .val (.int q2), .val (.int q3), .val (.int (0 : Int32)), .val (.int a0), .val (.int a1), .val (.int a2), .val (.int b0), .val (.int b1), .val (.int b2), .val (.ref r81), .val (.ref r82), .val (.int (own_dom0  )), .val (.int (1 : Int32)), .unset] [(.int (1 : Int32)), (.int (0 : Int32))]))
      have hc146 : (0 : Int32) < (1 : Int32) := by decide
      refine own_by (fun t k => XS.icmpYes X83.here hx rfl (pc0 := 146) (pc' := 156) rfl (hb hby at_146) rfl (tlt hc146).1 (by decide) (by decide) k) ?_
      show own_Go p.tables e below K (T83.setTop (mkF m 156 #[.val (.int q1), .val (.int q2), .val (.int q3), .val (.int (0 : Int32)), .val (.int a0), .val (.int a1), .val (.int a2), .val (.int b0), .val (.int b1), .val (.int b2), .val (.ref r81), .val (.ref r82), .val (.int (own_dom0  )), .val (.int (1 : Int32)), .unset] []))
      refine own_by (fun t k => XS.iloadN X83.here hx rfl (hb hby at_156) rfl k) ?_
      show own_Go p.tables e below K (T83.setTop (mkF m 157 #[.val (.int q1), .val (.int q2), .val (.int q3), .val (.int (0 : Int32)), .val (.int a0), .val (.int a1), .val (.int a2), .val (.int b0), .val (.int b1), .val (.int b2), .val (.ref r81), .val (.ref r82), .val (.int (own_dom0  )), .val (.int (1 : Int32)), .unset] [(.int (0 : Int32))]))
      refine own_by (fun t k => XS.iconst X83.here hx rfl (hb hby at_157) k) ?_
      show own_Go p.tables e below K (T83.setTop (mkF m 158 #[.val (.int q1), .val (.int q2), .val (.int q3), .val (.int (0 : Int32)), .val (.int a0), .val (.int a1), .val (.int a2), .val (.int b0), .val (.int b1), .val (.int b2), .val (.ref r81), .val (.ref r82), .val (.int (own_dom0  )), .val (.int (1 : Int32)), .unset] [(.int (2 : Int32)), (.int (0 : Int32))]))
      have hc158 : (0 : Int32) < (2 : Int32) := by decide
      refine own_by (fun t k => XS.icmpYes X83.here hx rfl (pc0 := 158) (pc' := 168) rfl (hb hby at_158) rfl (tlt hc158).1 (by decide) (by decide) k) ?_
      show own_Go p.tables e below K (T83.setTop (mkF m 168 #[.val (.int q1), .val (.int q2), .val (.int q3), .val (.int (0 : Int32)), .val (.int a0), .val (.int a1), .val (.int a2), .val (.int b0), .val (.int b1), .val (.int b2), .val (.ref r81), .val (.ref r82), .val (.int (own_dom0  )), .val (.int (1 : Int32)), .unset] []))
      refine own_by (fun t k => XS.iloadN X83.here hx rfl (hb hby at_168) rfl k) ?_
      show own_Go p.tables e below K (T83.setTop (mkF m 169 #[.val (.int q1), .val (.int q2), .val (.int q3), .val (.int (0 : Int32)), .val (.int a0), .val (.int a1), .val (.int a2), .val (.int b0), .val (.int b1), .val (.int b2), .val (.ref r81), .val (.ref r82), .val (.int (own_dom0  )), .val (.int (1 : Int32)), .unset] [(.int (0 : Int32))]))
      refine own_by (fun t k => XS.iconst X83.here hx rfl (hb hby at_169) k) ?_
      show own_Go p.tables e below K (T83.setTop (mkF m 170 #[.val (.int q1), .val (.int q2), .val (.int q3), .val (.int (0 : Int32)), .val (.int a0), .val (.int a1), .val (.int a2), .val (.int b0), .val (.int b1), .val (.int b2), .val (.ref r81), .val (.ref r82), .val (.int (own_dom0  )), .val (.int (1 : Int32)), .unset] [(.int (3 : Int32)), (.int (0 : Int32))]))
      have hc170 : (0 : Int32) < (3 : Int32) := by decide
      refine own_by (fun t k => XS.icmpYes X83.here hx rfl (pc0 := 170) (pc' := 184) rfl (hb hby at_170) rfl (tlt hc170).1 (by decide) (by decide) k) ?_
      show own_Go p.tables e below K (T83.setTop (mkF m 184 #[.val (.int q1), .val (.int q2), .val (.int q3), .val (.int (0 : Int32)), .val (.int a0), .val (.int a1), .val (.int a2), .val (.int b0), .val (.int b1), .val (.int b2), .val (.ref r81), .val (.ref r82), .val (.int (own_dom0  )), .val (.int (1 : Int32)), .unset] []))
      refine own_by (fun t k => XS.iconst X83.here hx rfl (hb hby at_184) k) ?_
      show own_Go p.tables e below K (T83.setTop (mkF m 185 #[.val (.int q1), .val (.int q2), .val (.int q3), .val (.int (0 : Int32)), .val (.int a0), .val (.int a1), .val (.int a2), .val (.int b0), .val (.int b1), .val (.int b2), .val (.ref r81), .val (.ref r82), .val (.int (own_dom0  )), .val (.int (1 : Int32)), .unset] [(.int (0 : Int32))]))
      refine own_by (fun t k => XS.istore X83.here hx rfl (hb hby at_185) rfl (l' := #[.val (.int q1), .val (.int q2), .val (.int q3), .val (.int (0 : Int32)), .val (.int a0), .val (.int a1), .val (.int a2), .val (.int b0), .val (.int b1), .val (.int b2), .val (.ref r81), .val (.ref r82), .val (.int (own_dom0  )), .val (.int (1 : Int32)), .val (.int (0 : Int32))]) rfl k) ?_
      show own_Go p.tables e below K (T83.setTop (mkF m 187 #[.val (.int q1), .val (.int q2), .val (.int q3), .val (.int (0 : Int32)), .val (.int a0), .val (.int a1), .val (.int a2), .val (.int b0), .val (.int b1), .val (.int b2), .val (.ref r81), .val (.ref r82), .val (.int (own_dom0  )), .val (.int (1 : Int32)), .val (.int (0 : Int32))] []))
      refine own_by (fun t k => XS.iload X83.here hx rfl (hb hby at_187) rfl k) ?_
      show own_Go p.tables e below K (T83.setTop (mkF m 189 #[.val (.int q1), .val (.int q2), .val (.int q3), .val (.int (0 : Int32)), .val (.int a0), .val (.int a1), .val (.int a2), .val (.int b0), .val (.int b1), .val (.int b2), .val (.ref r81), .val (.ref r82), .val (.int (own_dom0  )), .val (.int (1 : Int32)), .val (.int (0 : Int32))] [(.int (own_dom0  ))]))
      refine own_by (fun t k => XS.iload X83.here hx rfl (hb hby at_189) rfl k) ?_
      show own_Go p.tables e below K (T83.setTop (mkF m 191 #[.val (.int q1), .val (.int q2), .val (.int q3), .val (.int (0 : Int32)), .val (.int a0), .val (.int a1), .val (.int a2), .val (.int b0), .val (.int b1), .val (.int b2), .val (.ref r81), .val (.ref r82), .val (.int (own_dom0  )), .val (.int (1 : Int32)), .val (.int (0 : Int32))] [(.int (1 : Int32)), (.int (own_dom0  ))]))
      have hc191 : ¬ ((1 : Int32) = (0 : Int32)) := by decide
      refine own_by (fun t k => XS.ifNo X83.here hx rfl (hb hby at_191) rfl ((if0 _ _).trans (feq hc191).1) k) ?_
      show own_Go p.tables e below K (T83.setTop (mkF m 194 #[.val (.int q1), .val (.int q2), .val (.int q3), .val (.int (0 : Int32)), .val (.int a0), .val (.int a1), .val (.int a2), .val (.int b0), .val (.int b1), .val (.int b2), .val (.ref r81), .val (.ref r82), .val (.int (own_dom0  )), .val (.int (1 : Int32)), .val (.int (0 : Int32))] [(.int (own_dom0  ))]))
      refine own_by (fun t k => XS.iload X83.here hx rfl (hb hby at_194) rfl k) ?_
      show own_Go p.tables e below K (T83.setTop (mkF m 196 #[.val (.int q1), .val (.int q2), .val (.int q3), .val (.int (0 : Int32)), .val (.int a0), .val (.int a1), .val (.int a2), .val (.int b0), .val (.int b1), .val (.int b2), .val (.ref r81), .val (.ref r82), .val (.int (own_dom0  )), .val (.int (1 : Int32)), .val (.int (0 : Int32))] [(.int (0 : Int32)), (.int (own_dom0  ))]))
      have hc196 : (0 : Int32) = (0 : Int32) := by decide
      refine own_by (fun t k => XS.ifYes X83.here hx rfl (pc0 := 196) (pc' := 203) rfl (hb hby at_196) rfl ((if0 _ _).trans (teq hc196).1) (by decide) (by decide) k) ?_
      show own_Go p.tables e below K (T83.setTop (mkF m 203 #[.val (.int q1), .val (.int q2), .val (.int q3), .val (.int (0 : Int32)), .val (.int a0), .val (.int a1), .val (.int a2), .val (.int b0), .val (.int b1), .val (.int b2), .val (.ref r81), .val (.ref r82), .val (.int (own_dom0  )), .val (.int (1 : Int32)), .val (.int (0 : Int32))] [(.int (own_dom0  ))]))
      refine own_by (fun t k => XS.iconst X83.here hx rfl (hb hby at_203) k) ?_
      show own_Go p.tables e below K (T83.setTop (mkF m 204 #[.val (.int q1), .val (.int q2), .val (.int q3), .val (.int (0 : Int32)), .val (.int a0), .val (.int a1), .val (.int a2), .val (.int b0), .val (.int b1), .val (.int b2), .val (.ref r81), .val (.ref r82), .val (.int (own_dom0  )), .val (.int (1 : Int32)), .val (.int (0 : Int32))] [(.int (0 : Int32)), (.int (own_dom0  ))]))
      have hc204 : (own_dom0  ) = (0 : Int32) := by simp_all [own_dom0]
      refine own_by (fun t k => XS.icmpNo X83.here hx rfl (hb hby at_204) rfl (teq hc204).2 k) ?_
      show own_Go p.tables e below K (T83.setTop (mkF m 207 #[.val (.int q1), .val (.int q2), .val (.int q3), .val (.int (0 : Int32)), .val (.int a0), .val (.int a1), .val (.int a2), .val (.int b0), .val (.int b1), .val (.int b2), .val (.ref r81), .val (.ref r82), .val (.int (own_dom0  )), .val (.int (1 : Int32)), .val (.int (0 : Int32))] []))
      refine own_by (fun t k => XS.iconst X83.here hx rfl (hb hby at_207) k) ?_
      show own_Go p.tables e below K (T83.setTop (mkF m 208 #[.val (.int q1), .val (.int q2), .val (.int q3), .val (.int (0 : Int32)), .val (.int a0), .val (.int a1), .val (.int a2), .val (.int b0), .val (.int b1), .val (.int b2), .val (.ref r81), .val (.ref r82), .val (.int (own_dom0  )), .val (.int (1 : Int32)), .val (.int (0 : Int32))] [(.int (1 : Int32))]))
      refine own_by (fun t k => XS.goto X83.here hx rfl (pc0 := 208) (pc' := 212) rfl (hb hby at_208) (by decide) (by decide) k) ?_
      show own_Go p.tables e below K (T83.setTop (mkF m 212 #[.val (.int q1), .val (.int q2), .val (.int q3), .val (.int (0 : Int32)), .val (.int a0), .val (.int a1), .val (.int a2), .val (.int b0), .val (.int b1), .val (.int b2), .val (.ref r81), .val (.ref r82), .val (.int (own_dom0  )), .val (.int (1 : Int32)), .val (.int (0 : Int32))] [(.int (1 : Int32))]))
      exact own_retZ X83 hx (t := .boolean) hret (by simp) (hb hby at_212) (hK (some (.int (1 : Int32))) X83 (fun h => by rw [hret] at h; cases h) (⟨rfl, N83⟩) (by decide) (by decide))
    · show own_Go p.tables e below K (s₁.setTop (mkF m 68 #[.val (.int q1), .val (.int q2), .val (.int q3), .val (.int (1 : Int32)), .val (.int a0), .val (.int a1), .val (.int a2), .val (.int b0), .val (.int b1), .val (.int b2), .unset, .unset, .unset, .unset, .unset] []))
      refine own_by (fun t k => XS.iloadN X0.here hx rfl (hb hby at_68) rfl k) ?_
      show own_Go p.tables e below K (s₁.setTop (mkF m 69 #[.val (.int q1), .val (.int q2), .val (.int q3), .val (.int (1 : Int32)), .val (.int a0), .val (.int a1), .val (.int a2), .val (.int b0), .val (.int b1), .val (.int b2), .unset, .unset, .unset, .unset, .unset] [(.int (1 : Int32))]))
      refine own_by (fun t k => XS.iload X0.here hx rfl (hb hby at_69) rfl k) ?_
      show own_Go p.tables e below K (s₁.setTop (mkF m 71 #[.val (.int q1), .val (.int q2), .val (.int q3), .val (.int (1 : Int32)), .val (.int a0), .val (.int a1), .val (.int a2), .val (.int b0), .val (.int b1), .val (.int b2), .unset, .unset, .unset, .unset, .unset] [(.int a0), (.int (1 : Int32))]))
      refine own_by (fun t k => XS.iload X0.here hx rfl (hb hby at_71) rfl k) ?_
      show own_Go p.tables e below K (s₁.setTop (mkF m 73 #[.val (.int q1), .val (.int q2), .val (.int q3), .val (.int (1 : Int32)), .val (.int a0), .val (.int a1), .val (.int a2), .val (.int b0), .val (.int b1), .val (.int b2), .unset, .unset, .unset, .unset, .unset] [(.int a1), (.int a0), (.int (1 : Int32))]))
      refine own_by (fun t k => XS.iload X0.here hx rfl (hb hby at_73) rfl k) ?_
      show own_Go p.tables e below K (s₁.setTop (mkF m 75 #[.val (.int q1), .val (.int q2), .val (.int q3), .val (.int (1 : Int32)), .val (.int a0), .val (.int a1), .val (.int a2), .val (.int b0), .val (.int b1), .val (.int b2), .unset, .unset, .unset, .unset, .unset] [(.int a2), (.int a1), (.int a0), (.int (1 : Int32))]))
      obtain ⟨_, _, ⟨T84, L84, k84, n84⟩, -, X84, ⟨Lc84, hQ84, l84, y84, z84⟩, st84⟩ := Jvm.LawKit.callS X0 hx (y := (⟨"com/example/manyfront/manyfront/sorting/NondominatedSortingDominatesPinLaw", "make", "(IIII)[D"⟩ : MethodName)) hown (mvT hZ (hw _ (List.mem_of_getElem? (i := 0) rfl))) (mvT hZ (hw _ (List.mem_of_getElem? (i := 1) rfl))) (mvT hZ (hw _ (List.mem_of_getElem? (i := 2) rfl))) (mvT hZ (hw _ (List.mem_of_getElem? (i := 3) rfl))) (by decide) (backOf (W := 0) (own_rmmk1 l Z aw hw [] a0 a1 a2 h0 n0 Z0) hZ (hw _ (List.mem_of_getElem? (i := 3) rfl)) (hw _ (List.mem_of_getElem? (i := 2) rfl)) (by decide) (by decide)) (g := (mkF m 75 #[.val (.int q1), .val (.int q2), .val (.int q3), .val (.int (1 : Int32)), .val (.int a0), .val (.int a1), .val (.int a2), .val (.int b0), .val (.int b1), .val (.int b2), .unset, .unset, .unset, .unset, .unset] [(.int a2), (.int a1), (.int a0), (.int (1 : Int32))])) rfl (by rw [hml]; rfl) (argsL := [(.int (1 : Int32)), (.int a0), (.int a1), (.int a2)]) (rest := []) (lenOf own_pd0 rfl) rfl (by show 2 * 0 + _ ≤ _; exact Nat.le_of_eq rfl) (hb hby at_75) (fun _ _ => ⟨rfl, e0, (by decide : 0 + 1 ≤ _), (by decide : 0 + 1 ≤ _)⟩)
      dsimp only [Pt.U, Pt.locs, Pt.cells, Pt.slots] at X84 l84 y84 z84 st84 hQ84
      subst l84 y84 z84
      obtain ⟨r84, k84c, rfl, N84q, Kp84, Vp84⟩ := hQ84
      have N84 := Fr.app N0 N84q
      refine own_by st84 ?_
      have VA := Vp84
      have Z84 := Nat.le_trans Z0 Kp84.1
      show own_Go p.tables e below K (T84.setTop (mkF m 78 #[.val (.int q1), .val (.int q2), .val (.int q3), .val (.int (1 : Int32)), .val (.int a0), .val (.int a1), .val (.int a2), .val (.int b0), .val (.int b1), .val (.int b2), .unset, .unset, .unset, .unset, .unset] [(.ref r84)]))
      refine own_by (fun t k => XS.astore X84.here hx rfl (hb hby at_78) rfl rfl (l' := #[.val (.int q1), .val (.int q2), .val (.int q3), .val (.int (1 : Int32)), .val (.int a0), .val (.int a1), .val (.int a2), .val (.int b0), .val (.int b1), .val (.int b2), .val (.ref r84), .unset, .unset, .unset, .unset]) rfl k) ?_
      show own_Go p.tables e below K (T84.setTop (mkF m 80 #[.val (.int q1), .val (.int q2), .val (.int q3), .val (.int (1 : Int32)), .val (.int a0), .val (.int a1), .val (.int a2), .val (.int b0), .val (.int b1), .val (.int b2), .val (.ref r84), .unset, .unset, .unset, .unset] []))
      refine own_by (fun t k => XS.iloadN X84.here hx rfl (hb hby at_80) rfl k) ?_
      show own_Go p.tables e below K (T84.setTop (mkF m 81 #[.val (.int q1), .val (.int q2), .val (.int q3), .val (.int (1 : Int32)), .val (.int a0), .val (.int a1), .val (.int a2), .val (.int b0), .val (.int b1), .val (.int b2), .val (.ref r84), .unset, .unset, .unset, .unset] [(.int (1 : Int32))]))
      refine own_by (fun t k => XS.iload X84.here hx rfl (hb hby at_81) rfl k) ?_
      show own_Go p.tables e below K (T84.setTop (mkF m 83 #[.val (.int q1), .val (.int q2), .val (.int q3), .val (.int (1 : Int32)), .val (.int a0), .val (.int a1), .val (.int a2), .val (.int b0), .val (.int b1), .val (.int b2), .val (.ref r84), .unset, .unset, .unset, .unset] [(.int b0), (.int (1 : Int32))]))
      refine own_by (fun t k => XS.iload X84.here hx rfl (hb hby at_83) rfl k) ?_
      show own_Go p.tables e below K (T84.setTop (mkF m 85 #[.val (.int q1), .val (.int q2), .val (.int q3), .val (.int (1 : Int32)), .val (.int a0), .val (.int a1), .val (.int a2), .val (.int b0), .val (.int b1), .val (.int b2), .val (.ref r84), .unset, .unset, .unset, .unset] [(.int b1), (.int b0), (.int (1 : Int32))]))
      refine own_by (fun t k => XS.iload X84.here hx rfl (hb hby at_85) rfl k) ?_
      show own_Go p.tables e below K (T84.setTop (mkF m 87 #[.val (.int q1), .val (.int q2), .val (.int q3), .val (.int (1 : Int32)), .val (.int a0), .val (.int a1), .val (.int a2), .val (.int b0), .val (.int b1), .val (.int b2), .val (.ref r84), .unset, .unset, .unset, .unset] [(.int b2), (.int b1), (.int b0), (.int (1 : Int32))]))
      obtain ⟨_, _, ⟨T85, L85, k85, n85⟩, -, X85, ⟨Lc85, hQ85, l85, y85, z85⟩, st85⟩ := Jvm.LawKit.callS X84 hx (y := (⟨"com/example/manyfront/manyfront/sorting/NondominatedSortingDominatesPinLaw", "make", "(IIII)[D"⟩ : MethodName)) hown (mvT hZ (hw _ (List.mem_of_getElem? (i := 0) rfl))) (mvT hZ (hw _ (List.mem_of_getElem? (i := 1) rfl))) (mvT hZ (hw _ (List.mem_of_getElem? (i := 2) rfl))) (mvT hZ (hw _ (List.mem_of_getElem? (i := 3) rfl))) (by decide) (backOf (W := 0) (own_rmmk1 l Z aw hw [] b0 b1 b2 T84.heap n0 Z84) hZ (hw _ (List.mem_of_getElem? (i := 3) rfl)) (hw _ (List.mem_of_getElem? (i := 2) rfl)) (by decide) (by decide)) (g := (mkF m 87 #[.val (.int q1), .val (.int q2), .val (.int q3), .val (.int (1 : Int32)), .val (.int a0), .val (.int a1), .val (.int a2), .val (.int b0), .val (.int b1), .val (.int b2), .val (.ref r84), .unset, .unset, .unset, .unset] [(.int b2), (.int b1), (.int b0), (.int (1 : Int32))])) rfl (by rw [hml]; rfl) (argsL := [(.int (1 : Int32)), (.int b0), (.int b1), (.int b2)]) (rest := []) (lenOf own_pd0 rfl) rfl (by show 2 * 0 + _ ≤ _; exact Nat.le_of_eq rfl) (hb hby at_87) (fun _ _ => ⟨rfl, rfl, (by decide : 1 + 1 ≤ _), (by decide : 1 + 1 ≤ _)⟩)
      dsimp only [Pt.U, Pt.locs, Pt.cells, Pt.slots] at X85 l85 y85 z85 st85 hQ85
      subst l85 y85 z85
      obtain ⟨r85, k85c, rfl, N85q, Kp85, Vp85⟩ := hQ85
      have N85 := Fr.app N84 N85q
      refine own_by st85 ?_
      have VAk := VA.keep Kp85 nin0
      have VB := Vp85
      have Z85 := Nat.le_trans Z84 Kp85.1
      show own_Go p.tables e below K (T85.setTop (mkF m 90 #[.val (.int q1), .val (.int q2), .val (.int q3), .val (.int (1 : Int32)), .val (.int a0), .val (.int a1), .val (.int a2), .val (.int b0), .val (.int b1), .val (.int b2), .val (.ref r84), .unset, .unset, .unset, .unset] [(.ref r85)]))
      refine own_by (fun t k => XS.astore X85.here hx rfl (hb hby at_90) rfl rfl (l' := #[.val (.int q1), .val (.int q2), .val (.int q3), .val (.int (1 : Int32)), .val (.int a0), .val (.int a1), .val (.int a2), .val (.int b0), .val (.int b1), .val (.int b2), .val (.ref r84), .val (.ref r85), .unset, .unset, .unset]) rfl k) ?_
      show own_Go p.tables e below K (T85.setTop (mkF m 92 #[.val (.int q1), .val (.int q2), .val (.int q3), .val (.int (1 : Int32)), .val (.int a0), .val (.int a1), .val (.int a2), .val (.int b0), .val (.int b1), .val (.int b2), .val (.ref r84), .val (.ref r85), .unset, .unset, .unset] []))
      refine own_by (fun t k => XS.aload X85.here hx rfl (hb hby at_92) rfl rfl k) ?_
      show own_Go p.tables e below K (T85.setTop (mkF m 94 #[.val (.int q1), .val (.int q2), .val (.int q3), .val (.int (1 : Int32)), .val (.int a0), .val (.int a1), .val (.int a2), .val (.int b0), .val (.int b1), .val (.int b2), .val (.ref r84), .val (.ref r85), .unset, .unset, .unset] [(.ref r84)]))
      refine own_by (fun t k => XS.aload X85.here hx rfl (hb hby at_94) rfl rfl k) ?_
      show own_Go p.tables e below K (T85.setTop (mkF m 96 #[.val (.int q1), .val (.int q2), .val (.int q3), .val (.int (1 : Int32)), .val (.int a0), .val (.int a1), .val (.int a2), .val (.int b0), .val (.int b1), .val (.int b2), .val (.ref r84), .val (.ref r85), .unset, .unset, .unset] [(.ref r85), (.ref r84)]))
      obtain ⟨_, _, ⟨T86, L86, k86, n86⟩, -, X86, ⟨Lc86, hQ86, l86, y86, z86⟩, st86⟩ := Jvm.LawKit.callS X85 hx (y := (⟨"com/example/manyfront/manyfront/sorting/NondominatedSorting", "dominates", "([D[D)Z"⟩ : MethodName)) hown (mvT hZ (hw _ (List.mem_of_getElem? (i := 5) rfl))) (mvT hZ (hw _ (List.mem_of_getElem? (i := 6) rfl))) (mvT hZ (hw _ (List.mem_of_getElem? (i := 7) rfl))) (mvT hZ (hw _ (List.mem_of_getElem? (i := 8) rfl))) (by decide) (backOf (W := 0) (own_rmdm1 l Z aw hw [] r84 r85 _ _ a0 b0 T85.heap n0 Z85 VAk VB) hZ (hw _ (List.mem_of_getElem? (i := 8) rfl)) (hw _ (List.mem_of_getElem? (i := 7) rfl)) (by decide) (by decide)) (g := (mkF m 96 #[.val (.int q1), .val (.int q2), .val (.int q3), .val (.int (1 : Int32)), .val (.int a0), .val (.int a1), .val (.int a2), .val (.int b0), .val (.int b1), .val (.int b2), .val (.ref r84), .val (.ref r85), .unset, .unset, .unset] [(.ref r85), (.ref r84)])) rfl (by rw [hml]; rfl) (argsL := [(.ref r84), (.ref r85)]) (rest := []) (lenOf own_pd1 rfl) rfl (by show 2 * 0 + _ ≤ _; exact Nat.le_of_eq rfl) (hb hby at_96) (fun _ _ => ⟨rfl, rfl, (by decide : 2 + 0 ≤ _), (by decide : 2 + 0 ≤ _)⟩)
      dsimp only [Pt.U, Pt.locs, Pt.cells, Pt.slots] at X86 l86 y86 z86 st86 hQ86
      subst l86 y86 z86
      obtain ⟨rfl, N86q, e86⟩ := hQ86
      have N86 := Fr.app N85 N86q
      refine own_by st86 ?_
      show own_Go p.tables e below K (T86.setTop (mkF m 99 #[.val (.int q1), .val (.int q2), .val (.int q3), .val (.int (1 : Int32)), .val (.int a0), .val (.int a1), .val (.int a2), .val (.int b0), .val (.int b1), .val (.int b2), .val (.ref r84), .val (.ref r85), .unset, .unset, .unset] [(.int (own_dom1 a0 b0))]))
      refine own_by (fun t k => XS.istore X86.here hx rfl (hb hby at_99) rfl (l' := #[.val (.int q1), .val (.int q2), .val (.int q3), .val (.int (1 : Int32)), .val (.int a0), .val (.int a1), .val (.int a2), .val (.int b0), .val (.int b1), .val (.int b2), .val (.ref r84), .val (.ref r85), .val (.int (own_dom1 a0 b0)), .unset, .unset]) rfl k) ?_
      show own_Go p.tables e below K (T86.setTop (mkF m 101 #[.val (.int q1), .val (.int q2), .val (.int q3), .val (.int (1 : Int32)), .val (.int a0), .val (.int a1), .val (.int a2), .val (.int b0), .val (.int b1), .val (.int b2), .val (.ref r84), .val (.ref r85), .val (.int (own_dom1 a0 b0)), .unset, .unset] []))
      refine own_by (fun t k => XS.iloadN X86.here hx rfl (hb hby at_101) rfl k) ?_
      show own_Go p.tables e below K (T86.setTop (mkF m 102 #[.val (.int q1), .val (.int q2), .val (.int q3), .val (.int (1 : Int32)), .val (.int a0), .val (.int a1), .val (.int a2), .val (.int b0), .val (.int b1), .val (.int b2), .val (.ref r84), .val (.ref r85), .val (.int (own_dom1 a0 b0)), .unset, .unset] [(.int (1 : Int32))]))
      refine own_by (fun t k => XS.iconst X86.here hx rfl (hb hby at_102) k) ?_
      show own_Go p.tables e below K (T86.setTop (mkF m 103 #[.val (.int q1), .val (.int q2), .val (.int q3), .val (.int (1 : Int32)), .val (.int a0), .val (.int a1), .val (.int a2), .val (.int b0), .val (.int b1), .val (.int b2), .val (.ref r84), .val (.ref r85), .val (.int (own_dom1 a0 b0)), .unset, .unset] [(.int (1 : Int32)), (.int (1 : Int32))]))
      have hc103 : ¬ ((1 : Int32) < (1 : Int32)) := by decide
      refine own_by (fun t k => XS.icmpNo X86.here hx rfl (hb hby at_103) rfl (flt hc103).1 k) ?_
      show own_Go p.tables e below K (T86.setTop (mkF m 106 #[.val (.int q1), .val (.int q2), .val (.int q3), .val (.int (1 : Int32)), .val (.int a0), .val (.int a1), .val (.int a2), .val (.int b0), .val (.int b1), .val (.int b2), .val (.ref r84), .val (.ref r85), .val (.int (own_dom1 a0 b0)), .unset, .unset] []))
      refine own_by (fun t k => XS.iload X86.here hx rfl (hb hby at_106) rfl k) ?_
      show own_Go p.tables e below K (T86.setTop (mkF m 108 #[.val (.int q1), .val (.int q2), .val (.int q3), .val (.int (1 : Int32)), .val (.int a0), .val (.int a1), .val (.int a2), .val (.int b0), .val (.int b1), .val (.int b2), .val (.ref r84), .val (.ref r85), .val (.int (own_dom1 a0 b0)), .unset, .unset] [(.int a0)]))
      refine own_by (fun t k => XS.iload X86.here hx rfl (hb hby at_108) rfl k) ?_
      show own_Go p.tables e below K (T86.setTop (mkF m 110 #[.val (.int q1), .val (.int q2), .val (.int q3), .val (.int (1 : Int32)), .val (.int a0), .val (.int a1), .val (.int a2), .val (.int b0), .val (.int b1), .val (.int b2), .val (.ref r84), .val (.ref r85), .val (.int (own_dom1 a0 b0)), .unset, .unset] [(.int b0), (.int a0)]))
      by_cases hc110 : b0 < a0
      · refine own_by (fun t k => XS.icmpYes X86.here hx rfl (pc0 := 110) (pc' := 141) rfl (hb hby at_110) rfl (tlt hc110).2.2.1 (by decide) (by decide) k) ?_
        show own_Go p.tables e below K (T86.setTop (mkF m 141 #[.val (.int q1), .val (.int q2), .val (.int q3), .val (.int (1 : Int32)), .val (.int a0), .val (.int a1), .val (.int a2), .val (.int b0), .val (.int b1), .val (.int b2), .val (.ref r84), .val (.ref r85), .val (.int (own_dom1 a0 b0)), .unset, .unset] []))
        refine own_by (fun t k => XS.iconst X86.here hx rfl (hb hby at_141) k) ?_
        show own_Go p.tables e below K (T86.setTop (mkF m 142 #[.val (.int q1), .val (.int q2), .val (.int q3), .val (.int (1 : Int32)), .val (.int a0), .val (.int a1), .val (.int a2), .val (.int b0), .val (.int b1), .val (.int b2), .val (.ref r84), .val (.ref r85), .val (.int (own_dom1 a0 b0)), .unset, .unset] [(.int (0 : Int32))]))
        refine own_by (fun t k => XS.istore X86.here hx rfl (hb hby at_142) rfl (l' := #[.val (.int q1), .val (.int q2), .val (.int q3), .val (.int (1 : Int32)), .val (.int a0), .val (.int a1), .val (.int a2), .val (.int b0), .val (.int b1), .val (.int b2), .val (.ref r84), .val (.ref r85), .val (.int (own_dom1 a0 b0)), .val (.int (0 : Int32)), .unset]) rfl k) ?_
        show own_Go p.tables e below K (T86.setTop (mkF m 144 #[.val (.int q1), .val (.int q2), .val (.int q3), .val (.int (1 : Int32)), .val (.int a0), .val (.int a1), .val (.int a2), .val (.int b0), .val (.int b1), .val (.int b2), .val (.ref r84), .val (.ref r85), .val (.int (own_dom1 a0 b0)), .val (.int (0 : Int32)), .unset] []))
        refine own_by (fun t k => XS.iloadN X86.here hx rfl (hb hby at_144) rfl k) ?_
        show own_Go p.tables e below K (T86.setTop (mkF m 145 #[.val (.int q1), .val (.int q2), .val (.int q3), .val (.int (1 : Int32)), .val (.int a0), .val (.int a1), .val (.int a2), .val (.int b0), .val (.int b1), .val (.int b2), .val (.ref r84), .val (.ref r85), .val (.int (own_dom1 a0 b0)), .val (.int (0 : Int32)), .unset] [(.int (1 : Int32))]))
        refine own_by (fun t k => XS.iconst X86.here hx rfl (hb hby at_145) k) ?_
        show own_Go p.tables e below K (T86.setTop (mkF m 146 #[.val (.int q1), .val (.int q2), .val (.int q3), .val (.int (1 : Int32)), .val (.int a0), .val (.int a1), .val (.int a2), .val (.int b0), .val (.int b1), .val (.int b2), .val (.ref r84), .val (.ref r85), .val (.int (own_dom1 a0 b0)), .val (.int (0 : Int32)), .unset] [(.int (1 : Int32)), (.int (1 : Int32))]))
        have hc146 : ¬ ((1 : Int32) < (1 : Int32)) := by decide
        refine own_by (fun t k => XS.icmpNo X86.here hx rfl (hb hby at_146) rfl (flt hc146).1 k) ?_
        show own_Go p.tables e below K (T86.setTop (mkF m 149 #[.val (.int q1), .val (.int q2), .val (.int q3), .val (.int (1 : Int32)), .val (.int a0), .val (.int a1), .val (.int a2), .val (.int b0), .val (.int b1), .val (.int b2), .val (.ref r84), .val (.ref r85), .val (.int (own_dom1 a0 b0)), .val (.int (0 : Int32)), .unset] []))
        refine own_by (fun t k => XS.iload X86.here hx rfl (hb hby at_149) rfl k) ?_
        show own_Go p.tables e below K (T86.setTop (mkF m 151 #[.val (.int q1), .val (.int q2), .val (.int q3), .val (.int (1 : Int32)), .val (.int a0), .val (.int a1), .val (.int a2), .val (.int b0), .val (.int b1), .val (.int b2), .val (.ref r84), .val (.ref r85), .val (.int (own_dom1 a0 b0)), .val (.int (0 : Int32)), .unset] [(.int a0)]))
        refine own_by (fun t k => XS.iload X86.here hx rfl (hb hby at_151) rfl k) ?_
        show own_Go p.tables e below K (T86.setTop (mkF m 153 #[.val (.int q1), .val (.int q2), .val (.int q3), .val (.int (1 : Int32)), .val (.int a0), .val (.int a1), .val (.int a2), .val (.int b0), .val (.int b1), .val (.int b2), .val (.ref r84), .val (.ref r85), .val (.int (own_dom1 a0 b0)), .val (.int (0 : Int32)), .unset] [(.int b0), (.int a0)]))
        by_cases hc153 : a0 < b0
        · refine own_by (fun t k => XS.icmpYes X86.here hx rfl (pc0 := 153) (pc' := 180) rfl (hb hby at_153) rfl (tlt hc153).1 (by decide) (by decide) k) ?_
          show own_Go p.tables e below K (T86.setTop (mkF m 180 #[.val (.int q1), .val (.int q2), .val (.int q3), .val (.int (1 : Int32)), .val (.int a0), .val (.int a1), .val (.int a2), .val (.int b0), .val (.int b1), .val (.int b2), .val (.ref r84), .val (.ref r85), .val (.int (own_dom1 a0 b0)), .val (.int (0 : Int32)), .unset] []))
          refine own_by (fun t k => XS.iconst X86.here hx rfl (hb hby at_180) k) ?_
          show own_Go p.tables e below K (T86.setTop (mkF m 181 #[.val (.int q1), .val (.int q2), .val (.int q3), .val (.int (1 : Int32)), .val (.int a0), .val (.int a1), .val (.int a2), .val (.int b0), .val (.int b1), .val (.int b2), .val (.ref r84), .val (.ref r85), .val (.int (own_dom1 a0 b0)), .val (.int (0 : Int32)), .unset] [(.int (1 : Int32))]))
          refine own_by (fun t k => XS.goto X86.here hx rfl (pc0 := 181) (pc' := 185) rfl (hb hby at_181) (by decide) (by decide) k) ?_
          show own_Go p.tables e below K (T86.setTop (mkF m 185 #[.val (.int q1), .val (.int q2), .val (.int q3), .val (.int (1 : Int32)), .val (.int a0), .val (.int a1), .val (.int a2), .val (.int b0), .val (.int b1), .val (.int b2), .val (.ref r84), .val (.ref r85), .val (.int (own_dom1 a0 b0)), .val (.int (0 : Int32)), .unset] [(.int (1 : Int32))]))
          refine own_by (fun t k => XS.istore X86.here hx rfl (hb hby at_185) rfl (l' := #[.val (.int q1), .val (.int q2), .val (.int q3), .val (.int (1 : Int32)), .val (.int a0), .val (.int a1), .val (.int a2), .val (.int b0), .val (.int b1), .val (.int b2), .val (.ref r84), .val (.ref r85), .val (.int (own_dom1 a0 b0)), .val (.int (0 : Int32)), .val (.int (1 : Int32))]) rfl k) ?_
          show own_Go p.tables e below K (T86.setTop (mkF m 187 #[.val (.int q1), .val (.int q2), .val (.int q3), .val (.int (1 : Int32)), .val (.int a0), .val (.int a1), .val (.int a2), .val (.int b0), .val (.int b1), .val (.int b2), .val (.ref r84), .val (.ref r85), .val (.int (own_dom1 a0 b0)), .val (.int (0 : Int32)), .val (.int (1 : Int32))] []))
          refine own_by (fun t k => XS.iload X86.here hx rfl (hb hby at_187) rfl k) ?_
          show own_Go p.tables e below K (T86.setTop (mkF m 189 #[.val (.int q1), .val (.int q2), .val (.int q3), .val (.int (1 : Int32)), .val (.int a0), .val (.int a1), .val (.int a2), .val (.int b0), .val (.int b1), .val (.int b2), .val (.ref r84), .val (.ref r85), .val (.int (own_dom1 a0 b0)), .val (.int (0 : Int32)), .val (.int (1 : Int32))] [(.int (own_dom1 a0 b0))]))
          refine own_by (fun t k => XS.iload X86.here hx rfl (hb hby at_189) rfl k) ?_
          show own_Go p.tables e below K (T86.setTop (mkF m 191 #[.val (.int q1), .val (.int q2), .val (.int q3), .val (.int (1 : Int32)), .val (.int a0), .val (.int a1), .val (.int a2), .val (.int b0), .val (.int b1), .val (.int b2), .val (.ref r84), .val (.ref r85), .val (.int (own_dom1 a0 b0)), .val (.int (0 : Int32)), .val (.int (1 : Int32))] [(.int (0 : Int32)), (.int (own_dom1 a0 b0))]))
          have hc191 : (0 : Int32) = (0 : Int32) := by decide
          refine own_by (fun t k => XS.ifYes X86.here hx rfl (pc0 := 191) (pc' := 203) rfl (hb hby at_191) rfl ((if0 _ _).trans (teq hc191).1) (by decide) (by decide) k) ?_
          show own_Go p.tables e below K (T86.setTop (mkF m 203 #[.val (.int q1), .val (.int q2), .val (.int q3), .val (.int (1 : Int32)), .val (.int a0), .val (.int a1), .val (.int a2), .val (.int b0), .val (.int b1), .val (.int b2), .val (.ref r84), .val (.ref r85), .val (.int (own_dom1 a0 b0)), .val (.int (0 : Int32)), .val (.int (1 : Int32))] [(.int (own_dom1 a0 b0))]))
          refine own_by (fun t k => XS.iconst X86.here hx rfl (hb hby at_203) k) ?_
          show own_Go p.tables e below K (T86.setTop (mkF m 204 #[.val (.int q1), .val (.int q2), .val (.int q3), .val (.int (1 : Int32)), .val (.int a0), .val (.int a1), .val (.int a2), .val (.int b0), .val (.int b1), .val (.int b2), .val (.ref r84), .val (.ref r85), .val (.int (own_dom1 a0 b0)), .val (.int (0 : Int32)), .val (.int (1 : Int32))] [(.int (0 : Int32)), (.int (own_dom1 a0 b0))]))
          have hc204 : (own_dom1 a0 b0) = (0 : Int32) := by simp_all [own_dom1]
          refine own_by (fun t k => XS.icmpNo X86.here hx rfl (hb hby at_204) rfl (teq hc204).2 k) ?_
          show own_Go p.tables e below K (T86.setTop (mkF m 207 #[.val (.int q1), .val (.int q2), .val (.int q3), .val (.int (1 : Int32)), .val (.int a0), .val (.int a1), .val (.int a2), .val (.int b0), .val (.int b1), .val (.int b2), .val (.ref r84), .val (.ref r85), .val (.int (own_dom1 a0 b0)), .val (.int (0 : Int32)), .val (.int (1 : Int32))] []))
          refine own_by (fun t k => XS.iconst X86.here hx rfl (hb hby at_207) k) ?_
          show own_Go p.tables e below K (T86.setTop (mkF m 208 #[.val (.int q1), .val (.int q2), .val (.int q3), .val (.int (1 : Int32)), .val (.int a0), .val (.int a1), .val (.int a2), .val (.int b0), .val (.int b1), .val (.int b2), .val (.ref r84), .val (.ref r85), .val (.int (own_dom1 a0 b0)), .val (.int (0 : Int32)), .val (.int (1 : Int32))] [(.int (1 : Int32))]))
          refine own_by (fun t k => XS.goto X86.here hx rfl (pc0 := 208) (pc' := 212) rfl (hb hby at_208) (by decide) (by decide) k) ?_
          show own_Go p.tables e below K (T86.setTop (mkF m 212 #[.val (.int q1), .val (.int q2), .val (.int q3), .val (.int (1 : Int32)), .val (.int a0), .val (.int a1), .val (.int a2), .val (.int b0), .val (.int b1), .val (.int b2), .val (.ref r84), .val (.ref r85), .val (.int (own_dom1 a0 b0)), .val (.int (0 : Int32)), .val (.int (1 : Int32))] [(.int (1 : Int32))]))
          exact own_retZ X86 hx (t := .boolean) hret (by simp) (hb hby at_212) (hK (some (.int (1 : Int32))) X86 (fun h => by rw [hret] at h; cases h) (⟨rfl, N86⟩) (by decide) (by decide))
        · refine own_by (fun t k => XS.icmpNo X86.here hx rfl (hb hby at_153) rfl (flt hc153).1 k) ?_
          show own_Go p.tables e below K (T86.setTop (mkF m 156 #[.val (.int q1), .val (.int q2), .val (.int q3), .val (.int (1 : Int32)), .val (.int a0), .val (.int a1), .val (.int a2), .val (.int b0), .val (.int b1), .val (.int b2), .val (.ref r84), .val (.ref r85), .val (.int (own_dom1 a0 b0)), .val (.int (0 : Int32)), .unset] []))
          refine own_by (fun t k => XS.iloadN X86.here hx rfl (hb hby at_156) rfl k) ?_
          show own_Go p.tables e below K (T86.setTop (mkF m 157 #[.val (.int q1), .val (.int q2), .val (.int q3), .val (.int (1 : Int32)), .val (.int a0), .val (.int a1), .val (.int a2), .val (.int b0), .val (.int b1), .val (.int b2), .val (.ref r84), .val (.ref r85), .val (.int (own_dom1 a0 b0)), .val (.int (0 : Int32)), .unset] [(.int (1 : Int32))]))
          refine own_by (fun t k => XS.iconst X86.here hx rfl (hb hby at_157) k) ?_
          show own_Go p.tables e below K (T86.setTop (mkF m 158 #[.val (.int q1), .val (.int q2), .val (.int q3), .val (.int (1 : Int32)), .val (.int a0), .val (.int a1), .val (.int a2), .val (.int b0), .val (.int b1), .val (.int b2), .val (.ref r84), .val (.ref r85), .val (.int (own_dom1 a0 b0)), .val (.int (0 : Int32)), .unset] [(.int (2 : Int32)), (.int (1 : Int32))]))
          have hc158 : (1 : Int32) < (2 : Int32) := by decide
          refine own_by (fun t k => XS.icmpYes X86.here hx rfl (pc0 := 158) (pc' := 168) rfl (hb hby at_158) rfl (tlt hc158).1 (by decide) (by decide) k) ?_
          show own_Go p.tables e below K (T86.setTop (mkF m 168 #[.val (.int q1), .val (.int q2), .val (.int q3), .val (.int (1 : Int32)), .val (.int a0), .val (.int a1), .val (.int a2), .val (.int b0), .val (.int b1), .val (.int b2), .val (.ref r84), .val (.ref r85), .val (.int (own_dom1 a0 b0)), .val (.int (0 : Int32)), .unset] []))
          refine own_by (fun t k => XS.iloadN X86.here hx rfl (hb hby at_168) rfl k) ?_
          show own_Go p.tables e below K (T86.setTop (mkF m 169 #[.val (.int q1), .val (.int q2), .val (.int q3), .val (.int (1 : Int32)), .val (.int a0), .val (.int a1), .val (.int a2), .val (.int b0), .val (.int b1), .val (.int b2), .val (.ref r84), .val (.ref r85), .val (.int (own_dom1 a0 b0)), .val (.int (0 : Int32)), .unset] [(.int (1 : Int32))]))
          refine own_by (fun t k => XS.iconst X86.here hx rfl (hb hby at_169) k) ?_
          show own_Go p.tables e below K (T86.setTop (mkF m 170 #[.val (.int q1), .val (.int q2), .val (.int q3), .val (.int (1 : Int32)), .val (.int a0), .val (.int a1), .val (.int a2), .val (.int b0), .val (.int b1), .val (.int b2), .val (.ref r84), .val (.ref r85), .val (.int (own_dom1 a0 b0)), .val (.int (0 : Int32)), .unset] [(.int (3 : Int32)), (.int (1 : Int32))]))
          have hc170 : (1 : Int32) < (3 : Int32) := by decide
          refine own_by (fun t k => XS.icmpYes X86.here hx rfl (pc0 := 170) (pc' := 184) rfl (hb hby at_170) rfl (tlt hc170).1 (by decide) (by decide) k) ?_
          show own_Go p.tables e below K (T86.setTop (mkF m 184 #[.val (.int q1), .val (.int q2), .val (.int q3), .val (.int (1 : Int32)), .val (.int a0), .val (.int a1), .val (.int a2), .val (.int b0), .val (.int b1), .val (.int b2), .val (.ref r84), .val (.ref r85), .val (.int (own_dom1 a0 b0)), .val (.int (0 : Int32)), .unset] []))
          refine own_by (fun t k => XS.iconst X86.here hx rfl (hb hby at_184) k) ?_
          show own_Go p.tables e below K (T86.setTop (mkF m 185 #[.val (.int q1), .val (.int q2), .val (.int q3), .val (.int (1 : Int32)), .val (.int a0), .val (.int a1), .val (.int a2), .val (.int b0), .val (.int b1), .val (.int b2), .val (.ref r84), .val (.ref r85), .val (.int (own_dom1 a0 b0)), .val (.int (0 : Int32)), .unset] [(.int (0 : Int32))]))
          refine own_by (fun t k => XS.istore X86.here hx rfl (hb hby at_185) rfl (l' := #[.val (.int q1), .val (.int q2), .val (.int q3), .val (.int (1 : Int32)), .val (.int a0), .val (.int a1), .val (.int a2), .val (.int b0), .val (.int b1), .val (.int b2), .val (.ref r84), .val (.ref r85), .val (.int (own_dom1 a0 b0)), .val (.int (0 : Int32)), .val (.int (0 : Int32))]) rfl k) ?_
          show own_Go p.tables e below K (T86.setTop (mkF m 187 #[.val (.int q1), .val (.int q2), .val (.int q3), .val (.int (1 : Int32)), .val (.int a0), .val (.int a1), .val (.int a2), .val (.int b0), .val (.int b1), .val (.int b2), .val (.ref r84), .val (.ref r85), .val (.int (own_dom1 a0 b0)), .val (.int (0 : Int32)), .val (.int (0 : Int32))] []))
          refine own_by (fun t k => XS.iload X86.here hx rfl (hb hby at_187) rfl k) ?_
          show own_Go p.tables e below K (T86.setTop (mkF m 189 #[.val (.int q1), .val (.int q2), .val (.int q3), .val (.int (1 : Int32)), .val (.int a0), .val (.int a1), .val (.int a2), .val (.int b0), .val (.int b1), .val (.int b2), .val (.ref r84), .val (.ref r85), .val (.int (own_dom1 a0 b0)), .val (.int (0 : Int32)), .val (.int (0 : Int32))] [(.int (own_dom1 a0 b0))]))
          refine own_by (fun t k => XS.iload X86.here hx rfl (hb hby at_189) rfl k) ?_
          show own_Go p.tables e below K (T86.setTop (mkF m 191 #[.val (.int q1), .val (.int q2), .val (.int q3), .val (.int (1 : Int32)), .val (.int a0), .val (.int a1), .val (.int a2), .val (.int b0), .val (.int b1), .val (.int b2), .val (.ref r84), .val (.ref r85), .val (.int (own_dom1 a0 b0)), .val (.int (0 : Int32)), .val (.int (0 : Int32))] [(.int (0 : Int32)), (.int (own_dom1 a0 b0))]))
          have hc191 : (0 : Int32) = (0 : Int32) := by decide
          refine own_by (fun t k => XS.ifYes X86.here hx rfl (pc0 := 191) (pc' := 203) rfl (hb hby at_191) rfl ((if0 _ _).trans (teq hc191).1) (by decide) (by decide) k) ?_
          show own_Go p.tables e below K (T86.setTop (mkF m 203 #[.val (.int q1), .val (.int q2), .val (.int q3), .val (.int (1 : Int32)), .val (.int a0), .val (.int a1), .val (.int a2), .val (.int b0), .val (.int b1), .val (.int b2), .val (.ref r84), .val (.ref r85), .val (.int (own_dom1 a0 b0)), .val (.int (0 : Int32)), .val (.int (0 : Int32))] [(.int (own_dom1 a0 b0))]))
          refine own_by (fun t k => XS.iconst X86.here hx rfl (hb hby at_203) k) ?_
          show own_Go p.tables e below K (T86.setTop (mkF m 204 #[.val (.int q1), .val (.int q2), .val (.int q3), .val (.int (1 : Int32)), .val (.int a0), .val (.int a1), .val (.int a2), .val (.int b0), .val (.int b1), .val (.int b2), .val (.ref r84), .val (.ref r85), .val (.int (own_dom1 a0 b0)), .val (.int (0 : Int32)), .val (.int (0 : Int32))] [(.int (0 : Int32)), (.int (own_dom1 a0 b0))]))
          have hc204 : (own_dom1 a0 b0) = (0 : Int32) := by simp_all [own_dom1]
          refine own_by (fun t k => XS.icmpNo X86.here hx rfl (hb hby at_204) rfl (teq hc204).2 k) ?_
          show own_Go p.tables e below K (T86.setTop (mkF m 207 #[.val (.int q1), .val (.int q2), .val (.int q3), .val (.int (1 : Int32)), .val (.int a0), .val (.int a1), .val (.int a2), .val (.int b0), .val (.int b1), .val (.int b2), .val (.ref r84), .val (.ref r85), .val (.int (own_dom1 a0 b0)), .val (.int (0 : Int32)), .val (.int (0 : Int32))] []))
          refine own_by (fun t k => XS.iconst X86.here hx rfl (hb hby at_207) k) ?_
          show own_Go p.tables e below K (T86.setTop (mkF m 208 #[.val (.int q1), .val (.int q2), .val (.int q3), .val (.int (1 : Int32)), .val (.int a0), .val (.int a1), .val (.int a2), .val (.int b0), .val (.int b1), .val (.int b2), .val (.ref r84), .val (.ref r85), .val (.int (own_dom1 a0 b0)), .val (.int (0 : Int32)), .val (.int (0 : Int32))] [(.int (1 : Int32))]))
          refine own_by (fun t k => XS.goto X86.here hx rfl (pc0 := 208) (pc' := 212) rfl (hb hby at_208) (by decide) (by decide) k) ?_
          show own_Go p.tables e below K (T86.setTop (mkF m 212 #[.val (.int q1), .val (.int q2), .val (.int q3), .val (.int (1 : Int32)), .val (.int a0), .val (.int a1), .val (.int a2), .val (.int b0), .val (.int b1), .val (.int b2), .val (.ref r84), .val (.ref r85), .val (.int (own_dom1 a0 b0)), .val (.int (0 : Int32)), .val (.int (0 : Int32))] [(.int (1 : Int32))]))
          exact own_retZ X86 hx (t := .boolean) hret (by simp) (hb hby at_212) (hK (some (.int (1 : Int32))) X86 (fun h => by rw [hret] at h; cases h) (⟨rfl, N86⟩) (by decide) (by decide))
      · refine own_by (fun t k => XS.icmpNo X86.here hx rfl (hb hby at_110) rfl (flt hc110).2.2.1 k) ?_
        show own_Go p.tables e below K (T86.setTop (mkF m 113 #[.val (.int q1), .val (.int q2), .val (.int q3), .val (.int (1 : Int32)), .val (.int a0), .val (.int a1), .val (.int a2), .val (.int b0), .val (.int b1), .val (.int b2), .val (.ref r84), .val (.ref r85), .val (.int (own_dom1 a0 b0)), .unset, .unset] []))
        refine own_by (fun t k => XS.iloadN X86.here hx rfl (hb hby at_113) rfl k) ?_
        show own_Go p.tables e below K (T86.setTop (mkF m 114 #[.val (.int q1), .val (.int q2), .val (.int q3), .val (.int (1 : Int32)), .val (.int a0), .val (.int a1), .val (.int a2), .val (.int b0), .val (.int b1), .val (.int b2), .val (.ref r84), .val (.ref r85), .val (.int (own_dom1 a0 b0)), .unset, .unset] [(.int (1 : Int32))]))
        refine own_by (fun t k => XS.iconst X86.here hx rfl (hb hby at_114) k) ?_
        show own_Go p.tables e below K (T86.setTop (mkF m 115 #[.val (.int q1), .val (.int q2), .val (.int q3), .val (.int (1 : Int32)), .val (.int a0), .val (.int a1), .val (.int a2), .val (.int b0), .val (.int b1), .val (.int b2), .val (.ref r84), .val (.ref r85), .val (.int (own_dom1 a0 b0)), .unset, .unset] [(.int (2 : Int32)), (.int (1 : Int32))]))
        have hc115 : (1 : Int32) < (2 : Int32) := by decide
        refine own_by (fun t k => XS.icmpYes X86.here hx rfl (pc0 := 115) (pc' := 125) rfl (hb hby at_115) rfl (tlt hc115).1 (by decide) (by decide) k) ?_
        show own_Go p.tables e below K (T86.setTop (mkF m 125 #[.val (.int q1), .val (.int q2), .val (.int q3), .val (.int (1 : Int32)), .val (.int a0), .val (.int a1), .val (.int a2), .val (.int b0), .val (.int b1), .val (.int b2), .val (.ref r84), .val (.ref r85), .val (.int (own_dom1 a0 b0)), .unset, .unset] []))
        refine own_by (fun t k => XS.iloadN X86.here hx rfl (hb hby at_125) rfl k) ?_
        show own_Go p.tables e below K (T86.setTop (mkF m 126 #[.val (.int q1), .val (.int q2), .val (.int q3), .val (.int (1 : Int32)), .val (.int a0), .val (.int a1), .val (.int a2), .val (.int b0), .val (.int b1), .val (.int b2), .val (.ref r84), .val (.ref r85), .val (.int (own_dom1 a0 b0)), .unset, .unset] [(.int (1 : Int32))]))
        refine own_by (fun t k => XS.iconst X86.here hx rfl (hb hby at_126) k) ?_
        show own_Go p.tables e below K (T86.setTop (mkF m 127 #[.val (.int q1), .val (.int q2), .val (.int q3), .val (.int (1 : Int32)), .val (.int a0), .val (.int a1), .val (.int a2), .val (.int b0), .val (.int b1), .val (.int b2), .val (.ref r84), .val (.ref r85), .val (.int (own_dom1 a0 b0)), .unset, .unset] [(.int (3 : Int32)), (.int (1 : Int32))]))
        have hc127 : (1 : Int32) < (3 : Int32) := by decide
        refine own_by (fun t k => XS.icmpYes X86.here hx rfl (pc0 := 127) (pc' := 137) rfl (hb hby at_127) rfl (tlt hc127).1 (by decide) (by decide) k) ?_
        show own_Go p.tables e below K (T86.setTop (mkF m 137 #[.val (.int q1), .val (.int q2), .val (.int q3), .val (.int (1 : Int32)), .val (.int a0), .val (.int a1), .val (.int a2), .val (.int b0), .val (.int b1), .val (.int b2), .val (.ref r84), .val (.ref r85), .val (.int (own_dom1 a0 b0)), .unset, .unset] []))
        refine own_by (fun t k => XS.iconst X86.here hx rfl (hb hby at_137) k) ?_
        show own_Go p.tables e below K (T86.setTop (mkF m 138 #[.val (.int q1), .val (.int q2), .val (.int q3), .val (.int (1 : Int32)), .val (.int a0), .val (.int a1), .val (.int a2), .val (.int b0), .val (.int b1), .val (.int b2), .val (.ref r84), .val (.ref r85), .val (.int (own_dom1 a0 b0)), .unset, .unset] [(.int (1 : Int32))]))
        refine own_by (fun t k => XS.goto X86.here hx rfl (pc0 := 138) (pc' := 142) rfl (hb hby at_138) (by decide) (by decide) k) ?_
        show own_Go p.tables e below K (T86.setTop (mkF m 142 #[.val (.int q1), .val (.int q2), .val (.int q3), .val (.int (1 : Int32)), .val (.int a0), .val (.int a1), .val (.int a2), .val (.int b0), .val (.int b1), .val (.int b2), .val (.ref r84), .val (.ref r85), .val (.int (own_dom1 a0 b0)), .unset, .unset] [(.int (1 : Int32))]))
        refine own_by (fun t k => XS.istore X86.here hx rfl (hb hby at_142) rfl (l' := #[.val (.int q1), .val (.int q2), .val (.int q3), .val (.int (1 : Int32)), .val (.int a0), .val (.int a1), .val (.int a2), .val (.int b0), .val (.int b1), .val (.int b2), .val (.ref r84), .val (.ref r85), .val (.int (own_dom1 a0 b0)), .val (.int (1 : Int32)), .unset]) rfl k) ?_
        show own_Go p.tables e below K (T86.setTop (mkF m 144 #[.val (.int q1), .val (.int q2), .val (.int q3), .val (.int (1 : Int32)), .val (.int a0), .val (.int a1), .val (.int a2), .val (.int b0), .val (.int b1), .val (.int b2), .val (.ref r84), .val (.ref r85), .val (.int (own_dom1 a0 b0)), .val (.int (1 : Int32)), .unset] []))
        refine own_by (fun t k => XS.iloadN X86.here hx rfl (hb hby at_144) rfl k) ?_
        show own_Go p.tables e below K (T86.setTop (mkF m 145 #[.val (.int q1), .val (.int q2), .val (.int q3), .val (.int (1 : Int32)), .val (.int a0), .val (.int a1), .val (.int a2), .val (.int b0), .val (.int b1), .val (.int b2), .val (.ref r84), .val (.ref r85), .val (.int (own_dom1 a0 b0)), .val (.int (1 : Int32)), .unset] [(.int (1 : Int32))]))
        refine own_by (fun t k => XS.iconst X86.here hx rfl (hb hby at_145) k) ?_
        show own_Go p.tables e below K (T86.setTop (mkF m 146 #[.val (.int q1), .val (.int q2), .val (.int q3), .val (.int (1 : Int32)), .val (.int a0), .val (.int a1), .val (.int a2), .val (.int b0), .val (.int b1), .val (.int b2), .val (.ref r84), .val (.ref r85), .val (.int (own_dom1 a0 b0)), .val (.int (1 : Int32)), .unset] [(.int (1 : Int32)), (.int (1 : Int32))]))
        have hc146 : ¬ ((1 : Int32) < (1 : Int32)) := by decide
        refine own_by (fun t k => XS.icmpNo X86.here hx rfl (hb hby at_146) rfl (flt hc146).1 k) ?_
        show own_Go p.tables e below K (T86.setTop (mkF m 149 #[.val (.int q1), .val (.int q2), .val (.int q3), .val (.int (1 : Int32)), .val (.int a0), .val (.int a1), .val (.int a2), .val (.int b0), .val (.int b1), .val (.int b2), .val (.ref r84), .val (.ref r85), .val (.int (own_dom1 a0 b0)), .val (.int (1 : Int32)), .unset] []))
        refine own_by (fun t k => XS.iload X86.here hx rfl (hb hby at_149) rfl k) ?_
        show own_Go p.tables e below K (T86.setTop (mkF m 151 #[.val (.int q1), .val (.int q2), .val (.int q3), .val (.int (1 : Int32)), .val (.int a0), .val (.int a1), .val (.int a2), .val (.int b0), .val (.int b1), .val (.int b2), .val (.ref r84), .val (.ref r85), .val (.int (own_dom1 a0 b0)), .val (.int (1 : Int32)), .unset] [(.int a0)]))
        refine own_by (fun t k => XS.iload X86.here hx rfl (hb hby at_151) rfl k) ?_
        show own_Go p.tables e below K (T86.setTop (mkF m 153 #[.val (.int q1), .val (.int q2), .val (.int q3), .val (.int (1 : Int32)), .val (.int a0), .val (.int a1), .val (.int a2), .val (.int b0), .val (.int b1), .val (.int b2), .val (.ref r84), .val (.ref r85), .val (.int (own_dom1 a0 b0)), .val (.int (1 : Int32)), .unset] [(.int b0), (.int a0)]))
        by_cases hc153 : a0 < b0
        · refine own_by (fun t k => XS.icmpYes X86.here hx rfl (pc0 := 153) (pc' := 180) rfl (hb hby at_153) rfl (tlt hc153).1 (by decide) (by decide) k) ?_
          show own_Go p.tables e below K (T86.setTop (mkF m 180 #[.val (.int q1), .val (.int q2), .val (.int q3), .val (.int (1 : Int32)), .val (.int a0), .val (.int a1), .val (.int a2), .val (.int b0), .val (.int b1), .val (.int b2), .val (.ref r84), .val (.ref r85), .val (.int (own_dom1 a0 b0)), .val (.int (1 : Int32)), .unset] []))
          refine own_by (fun t k => XS.iconst X86.here hx rfl (hb hby at_180) k) ?_
          show own_Go p.tables e below K (T86.setTop (mkF m 181 #[.val (.int q1), .val (.int q2), .val (.int q3), .val (.int (1 : Int32)), .val (.int a0), .val (.int a1), .val (.int a2), .val (.int b0), .val (.int b1), .val (.int b2), .val (.ref r84), .val (.ref r85), .val (.int (own_dom1 a0 b0)), .val (.int (1 : Int32)), .unset] [(.int (1 : Int32))]))
          refine own_by (fun t k => XS.goto X86.here hx rfl (pc0 := 181) (pc' := 185) rfl (hb hby at_181) (by decide) (by decide) k) ?_
          show own_Go p.tables e below K (T86.setTop (mkF m 185 #[.val (.int q1), .val (.int q2), .val (.int q3), .val (.int (1 : Int32)), .val (.int a0), .val (.int a1), .val (.int a2), .val (.int b0), .val (.int b1), .val (.int b2), .val (.ref r84), .val (.ref r85), .val (.int (own_dom1 a0 b0)), .val (.int (1 : Int32)), .unset] [(.int (1 : Int32))]))
          refine own_by (fun t k => XS.istore X86.here hx rfl (hb hby at_185) rfl (l' := #[.val (.int q1), .val (.int q2), .val (.int q3), .val (.int (1 : Int32)), .val (.int a0), .val (.int a1), .val (.int a2), .val (.int b0), .val (.int b1), .val (.int b2), .val (.ref r84), .val (.ref r85), .val (.int (own_dom1 a0 b0)), .val (.int (1 : Int32)), .val (.int (1 : Int32))]) rfl k) ?_
          show own_Go p.tables e below K (T86.setTop (mkF m 187 #[.val (.int q1), .val (.int q2), .val (.int q3), .val (.int (1 : Int32)), .val (.int a0), .val (.int a1), .val (.int a2), .val (.int b0), .val (.int b1), .val (.int b2), .val (.ref r84), .val (.ref r85), .val (.int (own_dom1 a0 b0)), .val (.int (1 : Int32)), .val (.int (1 : Int32))] []))
          refine own_by (fun t k => XS.iload X86.here hx rfl (hb hby at_187) rfl k) ?_
          show own_Go p.tables e below K (T86.setTop (mkF m 189 #[.val (.int q1), .val (.int q2), .val (.int q3), .val (.int (1 : Int32)), .val (.int a0), .val (.int a1), .val (.int a2), .val (.int b0), .val (.int b1), .val (.int b2), .val (.ref r84), .val (.ref r85), .val (.int (own_dom1 a0 b0)), .val (.int (1 : Int32)), .val (.int (1 : Int32))] [(.int (own_dom1 a0 b0))]))
          refine own_by (fun t k => XS.iload X86.here hx rfl (hb hby at_189) rfl k) ?_
          show own_Go p.tables e below K (T86.setTop (mkF m 191 #[.val (.int q1), .val (.int q2), .val (.int q3), .val (.int (1 : Int32)), .val (.int a0), .val (.int a1), .val (.int a2), .val (.int b0), .val (.int b1), .val (.int b2), .val (.ref r84), .val (.ref r85), .val (.int (own_dom1 a0 b0)), .val (.int (1 : Int32)), .val (.int (1 : Int32))] [(.int (1 : Int32)), (.int (own_dom1 a0 b0))]))
          have hc191 : ¬ ((1 : Int32) = (0 : Int32)) := by decide
          refine own_by (fun t k => XS.ifNo X86.here hx rfl (hb hby at_191) rfl ((if0 _ _).trans (feq hc191).1) k) ?_
          show own_Go p.tables e below K (T86.setTop (mkF m 194 #[.val (.int q1), .val (.int q2), .val (.int q3), .val (.int (1 : Int32)), .val (.int a0), .val (.int a1), .val (.int a2), .val (.int b0), .val (.int b1), .val (.int b2), .val (.ref r84), .val (.ref r85), .val (.int (own_dom1 a0 b0)), .val (.int (1 : Int32)), .val (.int (1 : Int32))] [(.int (own_dom1 a0 b0))]))
          refine own_by (fun t k => XS.iload X86.here hx rfl (hb hby at_194) rfl k) ?_
          show own_Go p.tables e below K (T86.setTop (mkF m 196 #[.val (.int q1), .val (.int q2), .val (.int q3), .val (.int (1 : Int32)), .val (.int a0), .val (.int a1), .val (.int a2), .val (.int b0), .val (.int b1), .val (.int b2), .val (.ref r84), .val (.ref r85), .val (.int (own_dom1 a0 b0)), .val (.int (1 : Int32)), .val (.int (1 : Int32))] [(.int (1 : Int32)), (.int (own_dom1 a0 b0))]))
          have hc196 : ¬ ((1 : Int32) = (0 : Int32)) := by decide
          refine own_by (fun t k => XS.ifNo X86.here hx rfl (hb hby at_196) rfl ((if0 _ _).trans (feq hc196).1) k) ?_
          show own_Go p.tables e below K (T86.setTop (mkF m 199 #[.val (.int q1), .val (.int q2), .val (.int q3), .val (.int (1 : Int32)), .val (.int a0), .val (.int a1), .val (.int a2), .val (.int b0), .val (.int b1), .val (.int b2), .val (.ref r84), .val (.ref r85), .val (.int (own_dom1 a0 b0)), .val (.int (1 : Int32)), .val (.int (1 : Int32))] [(.int (own_dom1 a0 b0))]))
          refine own_by (fun t k => XS.iconst X86.here hx rfl (hb hby at_199) k) ?_
          show own_Go p.tables e below K (T86.setTop (mkF m 200 #[.val (.int q1), .val (.int q2), .val (.int q3), .val (.int (1 : Int32)), .val (.int a0), .val (.int a1), .val (.int a2), .val (.int b0), .val (.int b1), .val (.int b2), .val (.ref r84), .val (.ref r85), .val (.int (own_dom1 a0 b0)), .val (.int (1 : Int32)), .val (.int (1 : Int32))] [(.int (1 : Int32)), (.int (own_dom1 a0 b0))]))
          refine own_by (fun t k => XS.goto X86.here hx rfl (pc0 := 200) (pc' := 204) rfl (hb hby at_200) (by decide) (by decide) k) ?_
          show own_Go p.tables e below K (T86.setTop (mkF m 204 #[.val (.int q1), .val (.int q2), .val (.int q3), .val (.int (1 : Int32)), .val (.int a0), .val (.int a1), .val (.int a2), .val (.int b0), .val (.int b1), .val (.int b2), .val (.ref r84), .val (.ref r85), .val (.int (own_dom1 a0 b0)), .val (.int (1 : Int32)), .val (.int (1 : Int32))] [(.int (1 : Int32)), (.int (own_dom1 a0 b0))]))
          have hc204 : (own_dom1 a0 b0) = (1 : Int32) := by simp_all [own_dom1]
          refine own_by (fun t k => XS.icmpNo X86.here hx rfl (hb hby at_204) rfl (teq hc204).2 k) ?_
          show own_Go p.tables e below K (T86.setTop (mkF m 207 #[.val (.int q1), .val (.int q2), .val (.int q3), .val (.int (1 : Int32)), .val (.int a0), .val (.int a1), .val (.int a2), .val (.int b0), .val (.int b1), .val (.int b2), .val (.ref r84), .val (.ref r85), .val (.int (own_dom1 a0 b0)), .val (.int (1 : Int32)), .val (.int (1 : Int32))] []))
          refine own_by (fun t k => XS.iconst X86.here hx rfl (hb hby at_207) k) ?_
          show own_Go p.tables e below K (T86.setTop (mkF m 208 #[.val (.int q1), .val (.int q2), .val (.int q3), .val (.int (1 : Int32)), .val (.int a0), .val (.int a1), .val (.int a2), .val (.int b0), .val (.int b1), .val (.int b2), .val (.ref r84), .val (.ref r85), .val (.int (own_dom1 a0 b0)), .val (.int (1 : Int32)), .val (.int (1 : Int32))] [(.int (1 : Int32))]))
          refine own_by (fun t k => XS.goto X86.here hx rfl (pc0 := 208) (pc' := 212) rfl (hb hby at_208) (by decide) (by decide) k) ?_
          show own_Go p.tables e below K (T86.setTop (mkF m 212 #[.val (.int q1), .val (.int q2), .val (.int q3), .val (.int (1 : Int32)), .val (.int a0), .val (.int a1), .val (.int a2), .val (.int b0), .val (.int b1), .val (.int b2), .val (.ref r84), .val (.ref r85), .val (.int (own_dom1 a0 b0)), .val (.int (1 : Int32)), .val (.int (1 : Int32))] [(.int (1 : Int32))]))
          exact own_retZ X86 hx (t := .boolean) hret (by simp) (hb hby at_212) (hK (some (.int (1 : Int32))) X86 (fun h => by rw [hret] at h; cases h) (⟨rfl, N86⟩) (by decide) (by decide))
        · refine own_by (fun t k => XS.icmpNo X86.here hx rfl (hb hby at_153) rfl (flt hc153).1 k) ?_
          show own_Go p.tables e below K (T86.setTop (mkF m 156 #[.val (.int q1), .val (.int q2), .val (.int q3), .val (.int (1 : Int32)), .val (.int a0), .val (.int a1), .val (.int a2), .val (.int b0), .val (.int b1), .val (.int b2), .val (.ref r84), .val (.ref r85), .val (.int (own_dom1 a0 b0)), .val (.int (1 : Int32)), .unset] []))
          refine own_by (fun t k => XS.iloadN X86.here hx rfl (hb hby at_156) rfl k) ?_
          show own_Go p.tables e below K (T86.setTop (mkF m 157 #[.val (.int q1), .val (.int q2), .val (.int q3), .val (.int (1 : Int32)), .val (.int a0), .val (.int a1), .val (.int a2), .val (.int b0), .val (.int b1), .val (.int b2), .val (.ref r84), .val (.ref r85), .val (.int (own_dom1 a0 b0)), .val (.int (1 : Int32)), .unset] [(.int (1 : Int32))]))
          refine own_by (fun t k => XS.iconst X86.here hx rfl (hb hby at_157) k) ?_
          show own_Go p.tables e below K (T86.setTop (mkF m 158 #[.val (.int q1), .val (.int q2), .val (.int q3), .val (.int (1 : Int32)), .val (.int a0), .val (.int a1), .val (.int a2), .val (.int b0), .val (.int b1), .val (.int b2), .val (.ref r84), .val (.ref r85), .val (.int (own_dom1 a0 b0)), .val (.int (1 : Int32)), .unset] [(.int (2 : Int32)), (.int (1 : Int32))]))
          have hc158 : (1 : Int32) < (2 : Int32) := by decide
          refine own_by (fun t k => XS.icmpYes X86.here hx rfl (pc0 := 158) (pc' := 168) rfl (hb hby at_158) rfl (tlt hc158).1 (by decide) (by decide) k) ?_
          show own_Go p.tables e below K (T86.setTop (mkF m 168 #[.val (.int q1), .val (.int q2), .val (.int q3), .val (.int (1 : Int32)), .val (.int a0), .val (.int a1), .val (.int a2), .val (.int b0), .val (.int b1), .val (.int b2), .val (.ref r84), .val (.ref r85), .val (.int (own_dom1 a0 b0)), .val (.int (1 : Int32)), .unset] []))
          refine own_by (fun t k => XS.iloadN X86.here hx rfl (hb hby at_168) rfl k) ?_
          show own_Go p.tables e below K (T86.setTop (mkF m 169 #[.val (.int q1), .val (.int q2), .val (.int q3), .val (.int (1 : Int32)), .val (.int a0), .val (.int a1), .val (.int a2), .val (.int b0), .val (.int b1), .val (.int b2), .val (.ref r84), .val (.ref r85), .val (.int (own_dom1 a0 b0)), .val (.int (1 : Int32)), .unset] [(.int (1 : Int32))]))
          refine own_by (fun t k => XS.iconst X86.here hx rfl (hb hby at_169) k) ?_
          show own_Go p.tables e below K (T86.setTop (mkF m 170 #[.val (.int q1), .val (.int q2), .val (.int q3), .val (.int (1 : Int32)), .val (.int a0), .val (.int a1), .val (.int a2), .val (.int b0), .val (.int b1), .val (.int b2), .val (.ref r84), .val (.ref r85), .val (.int (own_dom1 a0 b0)), .val (.int (1 : Int32)), .unset] [(.int (3 : Int32)), (.int (1 : Int32))]))
          have hc170 : (1 : Int32) < (3 : Int32) := by decide
          refine own_by (fun t k => XS.icmpYes X86.here hx rfl (pc0 := 170) (pc' := 184) rfl (hb hby at_170) rfl (tlt hc170).1 (by decide) (by decide) k) ?_
          show own_Go p.tables e below K (T86.setTop (mkF m 184 #[.val (.int q1), .val (.int q2), .val (.int q3), .val (.int (1 : Int32)), .val (.int a0), .val (.int a1), .val (.int a2), .val (.int b0), .val (.int b1), .val (.int b2), .val (.ref r84), .val (.ref r85), .val (.int (own_dom1 a0 b0)), .val (.int (1 : Int32)), .unset] []))
          refine own_by (fun t k => XS.iconst X86.here hx rfl (hb hby at_184) k) ?_
          show own_Go p.tables e below K (T86.setTop (mkF m 185 #[.val (.int q1), .val (.int q2), .val (.int q3), .val (.int (1 : Int32)), .val (.int a0), .val (.int a1), .val (.int a2), .val (.int b0), .val (.int b1), .val (.int b2), .val (.ref r84), .val (.ref r85), .val (.int (own_dom1 a0 b0)), .val (.int (1 : Int32)), .unset] [(.int (0 : Int32))]))
          refine own_by (fun t k => XS.istore X86.here hx rfl (hb hby at_185) rfl (l' := #[.val (.int q1), .val (.int q2), .val (.int q3), .val (.int (1 : Int32)), .val (.int a0), .val (.int a1), .val (.int a2), .val (.int b0), .val (.int b1), .val (.int b2), .val (.ref r84), .val (.ref r85), .val (.int (own_dom1 a0 b0)), .val (.int (1 : Int32)), .val (.int (0 : Int32))]) rfl k) ?_
          show own_Go p.tables e below K (T86.setTop (mkF m 187 #[.val (.int q1), .val (.int q2), .val (.int q3), .val (.int (1 : Int32)), .val (.int a0), .val (.int a1), .val (.int a2), .val (.int b0), .val (.int b1), .val (.int b2), .val (.ref r84), .val (.ref r85), .val (.int (own_dom1 a0 b0)), .val (.int (1 : Int32)), .val (.int (0 : Int32))] []))
          refine own_by (fun t k => XS.iload X86.here hx rfl (hb hby at_187) rfl k) ?_
          show own_Go p.tables e below K (T86.setTop (mkF m 189 #[.val (.int q1), .val (.int q2), .val (.int q3), .val (.int (1 : Int32)), .val (.int a0), .val (.int a1), .val (.int a2), .val (.int b0), .val (.int b1), .val (.int b2), .val (.ref r84), .val (.ref r85), .val (.int (own_dom1 a0 b0)), .val (.int (1 : Int32)), .val (.int (0 : Int32))] [(.int (own_dom1 a0 b0))]))
          refine own_by (fun t k => XS.iload X86.here hx rfl (hb hby at_189) rfl k) ?_
          show own_Go p.tables e below K (T86.setTop (mkF m 191 #[.val (.int q1), .val (.int q2), .val (.int q3), .val (.int (1 : Int32)), .val (.int a0), .val (.int a1), .val (.int a2), .val (.int b0), .val (.int b1), .val (.int b2), .val (.ref r84), .val (.ref r85), .val (.int (own_dom1 a0 b0)), .val (.int (1 : Int32)), .val (.int (0 : Int32))] [(.int (1 : Int32)), (.int (own_dom1 a0 b0))]))
          have hc191 : ¬ ((1 : Int32) = (0 : Int32)) := by decide
          refine own_by (fun t k => XS.ifNo X86.here hx rfl (hb hby at_191) rfl ((if0 _ _).trans (feq hc191).1) k) ?_
          show own_Go p.tables e below K (T86.setTop (mkF m 194 #[.val (.int q1), .val (.int q2), .val (.int q3), .val (.int (1 : Int32)), .val (.int a0), .val (.int a1), .val (.int a2), .val (.int b0), .val (.int b1), .val (.int b2), .val (.ref r84), .val (.ref r85), .val (.int (own_dom1 a0 b0)), .val (.int (1 : Int32)), .val (.int (0 : Int32))] [(.int (own_dom1 a0 b0))]))
          refine own_by (fun t k => XS.iload X86.here hx rfl (hb hby at_194) rfl k) ?_
          show own_Go p.tables e below K (T86.setTop (mkF m 196 #[.val (.int q1), .val (.int q2), .val (.int q3), .val (.int (1 : Int32)), .val (.int a0), .val (.int a1), .val (.int a2), .val (.int b0), .val (.int b1), .val (.int b2), .val (.ref r84), .val (.ref r85), .val (.int (own_dom1 a0 b0)), .val (.int (1 : Int32)), .val (.int (0 : Int32))] [(.int (0 : Int32)), (.int (own_dom1 a0 b0))]))
          have hc196 : (0 : Int32) = (0 : Int32) := by decide
          refine own_by (fun t k => XS.ifYes X86.here hx rfl (pc0 := 196) (pc' := 203) rfl (hb hby at_196) rfl ((if0 _ _).trans (teq hc196).1) (by decide) (by decide) k) ?_
          show own_Go p.tables e below K (T86.setTop (mkF m 203 #[.val (.int q1), .val (.int q2), .val (.int q3), .val (.int (1 : Int32)), .val (.int a0), .val (.int a1), .val (.int a2), .val (.int b0), .val (.int b1), .val (.int b2), .val (.ref r84), .val (.ref r85), .val (.int (own_dom1 a0 b0)), .val (.int (1 : Int32)), .val (.int (0 : Int32))] [(.int (own_dom1 a0 b0))]))
          refine own_by (fun t k => XS.iconst X86.here hx rfl (hb hby at_203) k) ?_
          show own_Go p.tables e below K (T86.setTop (mkF m 204 #[.val (.int q1), .val (.int q2), .val (.int q3), .val (.int (1 : Int32)), .val (.int a0), .val (.int a1), .val (.int a2), .val (.int b0), .val (.int b1), .val (.int b2), .val (.ref r84), .val (.ref r85), .val (.int (own_dom1 a0 b0)), .val (.int (1 : Int32)), .val (.int (0 : Int32))] [(.int (0 : Int32)), (.int (own_dom1 a0 b0))]))
          have hc204 : (own_dom1 a0 b0) = (0 : Int32) := by simp_all [own_dom1]
          refine own_by (fun t k => XS.icmpNo X86.here hx rfl (hb hby at_204) rfl (teq hc204).2 k) ?_
          show own_Go p.tables e below K (T86.setTop (mkF m 207 #[.val (.int q1), .val (.int q2), .val (.int q3), .val (.int (1 : Int32)), .val (.int a0), .val (.int a1), .val (.int a2), .val (.int b0), .val (.int b1), .val (.int b2), .val (.ref r84), .val (.ref r85), .val (.int (own_dom1 a0 b0)), .val (.int (1 : Int32)), .val (.int (0 : Int32))] []))
          refine own_by (fun t k => XS.iconst X86.here hx rfl (hb hby at_207) k) ?_
          show own_Go p.tables e below K (T86.setTop (mkF m 208 #[.val (.int q1), .val (.int q2), .val (.int q3), .val (.int (1 : Int32)), .val (.int a0), .val (.int a1), .val (.int a2), .val (.int b0), .val (.int b1), .val (.int b2), .val (.ref r84), .val (.ref r85), .val (.int (own_dom1 a0 b0)), .val (.int (1 : Int32)), .val (.int (0 : Int32))] [(.int (1 : Int32))]))
          refine own_by (fun t k => XS.goto X86.here hx rfl (pc0 := 208) (pc' := 212) rfl (hb hby at_208) (by decide) (by decide) k) ?_
          show own_Go p.tables e below K (T86.setTop (mkF m 212 #[.val (.int q1), .val (.int q2), .val (.int q3), .val (.int (1 : Int32)), .val (.int a0), .val (.int a1), .val (.int a2), .val (.int b0), .val (.int b1), .val (.int b2), .val (.ref r84), .val (.ref r85), .val (.int (own_dom1 a0 b0)), .val (.int (1 : Int32)), .val (.int (0 : Int32))] [(.int (1 : Int32))]))
          exact own_retZ X86 hx (t := .boolean) hret (by simp) (hb hby at_212) (hK (some (.int (1 : Int32))) X86 (fun h => by rw [hret] at h; cases h) (⟨rfl, N86⟩) (by decide) (by decide))
    · show own_Go p.tables e below K (s₁.setTop (mkF m 68 #[.val (.int q1), .val (.int q2), .val (.int q3), .val (.int (2 : Int32)), .val (.int a0), .val (.int a1), .val (.int a2), .val (.int b0), .val (.int b1), .val (.int b2), .unset, .unset, .unset, .unset, .unset] []))
      refine own_by (fun t k => XS.iloadN X0.here hx rfl (hb hby at_68) rfl k) ?_
      show own_Go p.tables e below K (s₁.setTop (mkF m 69 #[.val (.int q1), .val (.int q2), .val (.int q3), .val (.int (2 : Int32)), .val (.int a0), .val (.int a1), .val (.int a2), .val (.int b0), .val (.int b1), .val (.int b2), .unset, .unset, .unset, .unset, .unset] [(.int (2 : Int32))]))
      refine own_by (fun t k => XS.iload X0.here hx rfl (hb hby at_69) rfl k) ?_
      show own_Go p.tables e below K (s₁.setTop (mkF m 71 #[.val (.int q1), .val (.int q2), .val (.int q3), .val (.int (2 : Int32)), .val (.int a0), .val (.int a1), .val (.int a2), .val (.int b0), .val (.int b1), .val (.int b2), .unset, .unset, .unset, .unset, .unset] [(.int a0), (.int (2 : Int32))]))
      refine own_by (fun t k => XS.iload X0.here hx rfl (hb hby at_71) rfl k) ?_
      show own_Go p.tables e below K (s₁.setTop (mkF m 73 #[.val (.int q1), .val (.int q2), .val (.int q3), .val (.int (2 : Int32)), .val (.int a0), .val (.int a1), .val (.int a2), .val (.int b0), .val (.int b1), .val (.int b2), .unset, .unset, .unset, .unset, .unset] [(.int a1), (.int a0), (.int (2 : Int32))]))
      refine own_by (fun t k => XS.iload X0.here hx rfl (hb hby at_73) rfl k) ?_
      show own_Go p.tables e below K (s₁.setTop (mkF m 75 #[.val (.int q1), .val (.int q2), .val (.int q3), .val (.int (2 : Int32)), .val (.int a0), .val (.int a1), .val (.int a2), .val (.int b0), .val (.int b1), .val (.int b2), .unset, .unset, .unset, .unset, .unset] [(.int a2), (.int a1), (.int a0), (.int (2 : Int32))]))
      obtain ⟨_, _, ⟨T87, L87, k87, n87⟩, -, X87, ⟨Lc87, hQ87, l87, y87, z87⟩, st87⟩ := Jvm.LawKit.callS X0 hx (y := (⟨"com/example/manyfront/manyfront/sorting/NondominatedSortingDominatesPinLaw", "make", "(IIII)[D"⟩ : MethodName)) hown (mvT hZ (hw _ (List.mem_of_getElem? (i := 0) rfl))) (mvT hZ (hw _ (List.mem_of_getElem? (i := 1) rfl))) (mvT hZ (hw _ (List.mem_of_getElem? (i := 2) rfl))) (mvT hZ (hw _ (List.mem_of_getElem? (i := 3) rfl))) (by decide) (backOf (W := 0) (own_rmmk2 l Z aw hw [] a0 a1 a2 h0 n0 Z0) hZ (hw _ (List.mem_of_getElem? (i := 3) rfl)) (hw _ (List.mem_of_getElem? (i := 2) rfl)) (by decide) (by decide)) (g := (mkF m 75 #[.val (.int q1), .val (.int q2), .val (.int q3), .val (.int (2 : Int32)), .val (.int a0), .val (.int a1), .val (.int a2), .val (.int b0), .val (.int b1), .val (.int b2), .unset, .unset, .unset, .unset, .unset] [(.int a2), (.int a1), (.int a0), (.int (2 : Int32))])) rfl (by rw [hml]; rfl) (argsL := [(.int (2 : Int32)), (.int a0), (.int a1), (.int a2)]) (rest := []) (lenOf own_pd0 rfl) rfl (by show 2 * 0 + _ ≤ _; exact Nat.le_of_eq rfl) (hb hby at_75) (fun _ _ => ⟨rfl, e0, (by decide : 0 + 1 ≤ _), (by decide : 0 + 2 ≤ _)⟩)
      dsimp only [Pt.U, Pt.locs, Pt.cells, Pt.slots] at X87 l87 y87 z87 st87 hQ87
      subst l87 y87 z87
      obtain ⟨r87, k87c, rfl, N87q, Kp87, Vp87⟩ := hQ87
      have N87 := Fr.app N0 N87q
      refine own_by st87 ?_
      have VA := Vp87
      have Z87 := Nat.le_trans Z0 Kp87.1
      show own_Go p.tables e below K (T87.setTop (mkF m 78 #[.val (.int q1), .val (.int q2), .val (.int q3), .val (.int (2 : Int32)), .val (.int a0), .val (.int a1), .val (.int a2), .val (.int b0), .val (.int b1), .val (.int b2), .unset, .unset, .unset, .unset, .unset] [(.ref r87)]))
      refine own_by (fun t k => XS.astore X87.here hx rfl (hb hby at_78) rfl rfl (l' := #[.val (.int q1), .val (.int q2), .val (.int q3), .val (.int (2 : Int32)), .val (.int a0), .val (.int a1), .val (.int a2), .val (.int b0), .val (.int b1), .val (.int b2), .val (.ref r87), .unset, .unset, .unset, .unset]) rfl k) ?_
      show own_Go p.tables e below K (T87.setTop (mkF m 80 #[.val (.int q1), .val (.int q2), .val (.int q3), .val (.int (2 : Int32)), .val (.int a0), .val (.int a1), .val (.int a2), .val (.int b0), .val (.int b1), .val (.int b2), .val (.ref r87), .unset, .unset, .unset, .unset] []))
      refine own_by (fun t k => XS.iloadN X87.here hx rfl (hb hby at_80) rfl k) ?_
      show own_Go p.tables e below K (T87.setTop (mkF m 81 #[.val (.int q1), .val (.int q2), .val (.int q3), .val (.int (2 : Int32)), .val (.int a0), .val (.int a1), .val (.int a2), .val (.int b0), .val (.int b1), .val (.int b2), .val (.ref r87), .unset, .unset, .unset, .unset] [(.int (2 : Int32))]))
      refine own_by (fun t k => XS.iload X87.here hx rfl (hb hby at_81) rfl k) ?_
      show own_Go p.tables e below K (T87.setTop (mkF m 83 #[.val (.int q1), .val (.int q2), .val (.int q3), .val (.int (2 : Int32)), .val (.int a0), .val (.int a1), .val (.int a2), .val (.int b0), .val (.int b1), .val (.int b2), .val (.ref r87), .unset, .unset, .unset, .unset] [(.int b0), (.int (2 : Int32))]))
      refine own_by (fun t k => XS.iload X87.here hx rfl (hb hby at_83) rfl k) ?_
      show own_Go p.tables e below K (T87.setTop (mkF m 85 #[.val (.int q1), .val (.int q2), .val (.int q3), .val (.int (2 : Int32)), .val (.int a0), .val (.int a1), .val (.int a2), .val (.int b0), .val (.int b1), .val (.int b2), .val (.ref r87), .unset, .unset, .unset, .unset] [(.int b1), (.int b0), (.int (2 : Int32))]))
      refine own_by (fun t k => XS.iload X87.here hx rfl (hb hby at_85) rfl k) ?_
      show own_Go p.tables e below K (T87.setTop (mkF m 87 #[.val (.int q1), .val (.int q2), .val (.int q3), .val (.int (2 : Int32)), .val (.int a0), .val (.int a1), .val (.int a2), .val (.int b0), .val (.int b1), .val (.int b2), .val (.ref r87), .unset, .unset, .unset, .unset] [(.int b2), (.int b1), (.int b0), (.int (2 : Int32))]))
      obtain ⟨_, _, ⟨T88, L88, k88, n88⟩, -, X88, ⟨Lc88, hQ88, l88, y88, z88⟩, st88⟩ := Jvm.LawKit.callS X87 hx (y := (⟨"com/example/manyfront/manyfront/sorting/NondominatedSortingDominatesPinLaw", "make", "(IIII)[D"⟩ : MethodName)) hown (mvT hZ (hw _ (List.mem_of_getElem? (i := 0) rfl))) (mvT hZ (hw _ (List.mem_of_getElem? (i := 1) rfl))) (mvT hZ (hw _ (List.mem_of_getElem? (i := 2) rfl))) (mvT hZ (hw _ (List.mem_of_getElem? (i := 3) rfl))) (by decide) (backOf (W := 0) (own_rmmk2 l Z aw hw [] b0 b1 b2 T87.heap n0 Z87) hZ (hw _ (List.mem_of_getElem? (i := 3) rfl)) (hw _ (List.mem_of_getElem? (i := 2) rfl)) (by decide) (by decide)) (g := (mkF m 87 #[.val (.int q1), .val (.int q2), .val (.int q3), .val (.int (2 : Int32)), .val (.int a0), .val (.int a1), .val (.int a2), .val (.int b0), .val (.int b1), .val (.int b2), .val (.ref r87), .unset, .unset, .unset, .unset] [(.int b2), (.int b1), (.int b0), (.int (2 : Int32))])) rfl (by rw [hml]; rfl) (argsL := [(.int (2 : Int32)), (.int b0), (.int b1), (.int b2)]) (rest := []) (lenOf own_pd0 rfl) rfl (by show 2 * 0 + _ ≤ _; exact Nat.le_of_eq rfl) (hb hby at_87) (fun _ _ => ⟨rfl, rfl, (by decide : 1 + 1 ≤ _), (by decide : 2 + 2 ≤ _)⟩)
      dsimp only [Pt.U, Pt.locs, Pt.cells, Pt.slots] at X88 l88 y88 z88 st88 hQ88
      subst l88 y88 z88
      obtain ⟨r88, k88c, rfl, N88q, Kp88, Vp88⟩ := hQ88
      have N88 := Fr.app N87 N88q
      refine own_by st88 ?_
      have VAk := VA.keep Kp88 nin0
      have VB := Vp88
      have Z88 := Nat.le_trans Z87 Kp88.1
      show own_Go p.tables e below K (T88.setTop (mkF m 90 #[.val (.int q1), .val (.int q2), .val (.int q3), .val (.int (2 : Int32)), .val (.int a0), .val (.int a1), .val (.int a2), .val (.int b0), .val (.int b1), .val (.int b2), .val (.ref r87), .unset, .unset, .unset, .unset] [(.ref r88)]))
      refine own_by (fun t k => XS.astore X88.here hx rfl (hb hby at_90) rfl rfl (l' := #[.val (.int q1), .val (.int q2), .val (.int q3), .val (.int (2 : Int32)), .val (.int a0), .val (.int a1), .val (.int a2), .val (.int b0), .val (.int b1), .val (.int b2), .val (.ref r87), .val (.ref r88), .unset, .unset, .unset]) rfl k) ?_
      show own_Go p.tables e below K (T88.setTop (mkF m 92 #[.val (.int q1), .val (.int q2), .val (.int q3), .val (.int (2 : Int32)), .val (.int a0), .val (.int a1), .val (.int a2), .val (.int b0), .val (.int b1), .val (.int b2), .val (.ref r87), .val (.ref r88), .unset, .unset, .unset] []))
      refine own_by (fun t k => XS.aload X88.here hx rfl (hb hby at_92) rfl rfl k) ?_
      show own_Go p.tables e below K (T88.setTop (mkF m 94 #[.val (.int q1), .val (.int q2), .val (.int q3), .val (.int (2 : Int32)), .val (.int a0), .val (.int a1), .val (.int a2), .val (.int b0), .val (.int b1), .val (.int b2), .val (.ref r87), .val (.ref r88), .unset, .unset, .unset] [(.ref r87)]))
      refine own_by (fun t k => XS.aload X88.here hx rfl (hb hby at_94) rfl rfl k) ?_
      show own_Go p.tables e below K (T88.setTop (mkF m 96 #[.val (.int q1), .val (.int q2), .val (.int q3), .val (.int (2 : Int32)), .val (.int a0), .val (.int a1), .val (.int a2), .val (.int b0), .val (.int b1), .val (.int b2), .val (.ref r87), .val (.ref r88), .unset, .unset, .unset] [(.ref r88), (.ref r87)]))
      obtain ⟨_, _, ⟨T89, L89, k89, n89⟩, -, X89, ⟨Lc89, hQ89, l89, y89, z89⟩, st89⟩ := Jvm.LawKit.callS X88 hx (y := (⟨"com/example/manyfront/manyfront/sorting/NondominatedSorting", "dominates", "([D[D)Z"⟩ : MethodName)) hown (mvT hZ (hw _ (List.mem_of_getElem? (i := 5) rfl))) (mvT hZ (hw _ (List.mem_of_getElem? (i := 6) rfl))) (mvT hZ (hw _ (List.mem_of_getElem? (i := 7) rfl))) (mvT hZ (hw _ (List.mem_of_getElem? (i := 8) rfl))) (by decide) (backOf (W := 0) (own_rmdm2 l Z aw hw [] r87 r88 _ _ a0 a1 b0 b1 T88.heap n0 Z88 VAk VB) hZ (hw _ (List.mem_of_getElem? (i := 8) rfl)) (hw _ (List.mem_of_getElem? (i := 7) rfl)) (by decide) (by decide)) (g := (mkF m 96 #[.val (.int q1), .val (.int q2), .val (.int q3), .val (.int (2 : Int32)), .val (.int a0), .val (.int a1), .val (.int a2), .val (.int b0), .val (.int b1), .val (.int b2), .val (.ref r87), .val (.ref r88), .unset, .unset, .unset] [(.ref r88), (.ref r87)])) rfl (by rw [hml]; rfl) (argsL := [(.ref r87), (.ref r88)]) (rest := []) (lenOf own_pd1 rfl) rfl (by show 2 * 0 + _ ≤ _; exact Nat.le_of_eq rfl) (hb hby at_96) (fun _ _ => ⟨rfl, rfl, (by decide : 2 + 0 ≤ _), (by decide : 4 + 0 ≤ _)⟩)
      dsimp only [Pt.U, Pt.locs, Pt.cells, Pt.slots] at X89 l89 y89 z89 st89 hQ89
      subst l89 y89 z89
      obtain ⟨rfl, N89q, e89⟩ := hQ89
      have N89 := Fr.app N88 N89q
      refine own_by st89 ?_
      show own_Go p.tables e below K (T89.setTop (mkF m 99 #[.val (.int q1), .val (.int q2), .val (.int q3), .val (.int (2 : Int32)), .val (.int a0), .val (.int a1), .val (.int a2), .val (.int b0), .val (.int b1), .val (.int b2), .val (.ref r87), .val (.ref r88), .unset, .unset, .unset] [(.int (own_dom2 a0 a1 b0 b1))]))
      refine own_by (fun t k => XS.istore X89.here hx rfl (hb hby at_99) rfl (l' := #[.val (.int q1), .val (.int q2), .val (.int q3), .val (.int (2 : Int32)), .val (.int a0), .val (.int a1), .val (.int a2), .val (.int b0), .val (.int b1), .val (.int b2), .val (.ref r87), .val (.ref r88), .val (.int (own_dom2 a0 a1 b0 b1)), .unset, .unset]) rfl k) ?_
      show own_Go p.tables e below K (T89.setTop (mkF m 101 #[.val (.int q1), .val (.int q2), .val (.int q3), .val (.int (2 : Int32)), .val (.int a0), .val (.int a1), .val (.int a2), .val (.int b0), .val (.int b1), .val (.int b2), .val (.ref r87), .val (.ref r88), .val (.int (own_dom2 a0 a1 b0 b1)), .unset, .unset] []))
      refine own_by (fun t k => XS.iloadN X89.here hx rfl (hb hby at_101) rfl k) ?_
      show own_Go p.tables e below K (T89.setTop (mkF m 102 #[.val (.int q1), .val (.int q2), .val (.int q3), .val (.int (2 : Int32)), .val (.int a0), .val (.int a1), .val (.int a2), .val (.int b0), .val (.int b1), .val (.int b2), .val (.ref r87), .val (.ref r88), .val (.int (own_dom2 a0 a1 b0 b1)), .unset, .unset] [(.int (2 : Int32))]))
      refine own_by (fun t k => XS.iconst X89.here hx rfl (hb hby at_102) k) ?_
      show own_Go p.tables e below K (T89.setTop (mkF m 103 #[.val (.int q1), .val (.int q2), .val (.int q3), .val (.int (2 : Int32)), .val (.int a0), .val (.int a1), .val (.int a2), .val (.int b0), .val (.int b1), .val (.int b2), .val (.ref r87), .val (.ref r88), .val (.int (own_dom2 a0 a1 b0 b1)), .unset, .unset] [(.int (1 : Int32)), (.int (2 : Int32))]))
      have hc103 : ¬ ((2 : Int32) < (1 : Int32)) := by decide
      refine own_by (fun t k => XS.icmpNo X89.here hx rfl (hb hby at_103) rfl (flt hc103).1 k) ?_
      show own_Go p.tables e below K (T89.setTop (mkF m 106 #[.val (.int q1), .val (.int q2), .val (.int q3), .val (.int (2 : Int32)), .val (.int a0), .val (.int a1), .val (.int a2), .val (.int b0), .val (.int b1), .val (.int b2), .val (.ref r87), .val (.ref r88), .val (.int (own_dom2 a0 a1 b0 b1)), .unset, .unset] []))
      refine own_by (fun t k => XS.iload X89.here hx rfl (hb hby at_106) rfl k) ?_
      show own_Go p.tables e below K (T89.setTop (mkF m 108 #[.val (.int q1), .val (.int q2), .val (.int q3), .val (.int (2 : Int32)), .val (.int a0), .val (.int a1), .val (.int a2), .val (.int b0), .val (.int b1), .val (.int b2), .val (.ref r87), .val (.ref r88), .val (.int (own_dom2 a0 a1 b0 b1)), .unset, .unset] [(.int a0)]))
      refine own_by (fun t k => XS.iload X89.here hx rfl (hb hby at_108) rfl k) ?_
      show own_Go p.tables e below K (T89.setTop (mkF m 110 #[.val (.int q1), .val (.int q2), .val (.int q3), .val (.int (2 : Int32)), .val (.int a0), .val (.int a1), .val (.int a2), .val (.int b0), .val (.int b1), .val (.int b2), .val (.ref r87), .val (.ref r88), .val (.int (own_dom2 a0 a1 b0 b1)), .unset, .unset] [(.int b0), (.int a0)]))
      by_cases hc110 : b0 < a0
      · refine own_by (fun t k => XS.icmpYes X89.here hx rfl (pc0 := 110) (pc' := 141) rfl (hb hby at_110) rfl (tlt hc110).2.2.1 (by decide) (by decide) k) ?_
        show own_Go p.tables e below K (T89.setTop (mkF m 141 #[.val (.int q1), .val (.int q2), .val (.int q3), .val (.int (2 : Int32)), .val (.int a0), .val (.int a1), .val (.int a2), .val (.int b0), .val (.int b1), .val (.int b2), .val (.ref r87), .val (.ref r88), .val (.int (own_dom2 a0 a1 b0 b1)), .unset, .unset] []))
        refine own_by (fun t k => XS.iconst X89.here hx rfl (hb hby at_141) k) ?_
        show own_Go p.tables e below K (T89.setTop (mkF m 142 #[.val (.int q1), .val (.int q2), .val (.int q3), .val (.int (2 : Int32)), .val (.int a0), .val (.int a1), .val (.int a2), .val (.int b0), .val (.int b1), .val (.int b2), .val (.ref r87), .val (.ref r88), .val (.int (own_dom2 a0 a1 b0 b1)), .unset, .unset] [(.int (0 : Int32))]))
        refine own_by (fun t k => XS.istore X89.here hx rfl (hb hby at_142) rfl (l' := #[.val (.int q1), .val (.int q2), .val (.int q3), .val (.int (2 : Int32)), .val (.int a0), .val (.int a1), .val (.int a2), .val (.int b0), .val (.int b1), .val (.int b2), .val (.ref r87), .val (.ref r88), .val (.int (own_dom2 a0 a1 b0 b1)), .val (.int (0 : Int32)), .unset]) rfl k) ?_
        show own_Go p.tables e below K (T89.setTop (mkF m 144 #[.val (.int q1), .val (.int q2), .val (.int q3), .val (.int (2 : Int32)), .val (.int a0), .val (.int a1), .val (.int a2), .val (.int b0), .val (.int b1), .val (.int b2), .val (.ref r87), .val (.ref r88), .val (.int (own_dom2 a0 a1 b0 b1)), .val (.int (0 : Int32)), .unset] []))
        refine own_by (fun t k => XS.iloadN X89.here hx rfl (hb hby at_144) rfl k) ?_
        show own_Go p.tables e below K (T89.setTop (mkF m 145 #[.val (.int q1), .val (.int q2), .val (.int q3), .val (.int (2 : Int32)), .val (.int a0), .val (.int a1), .val (.int a2), .val (.int b0), .val (.int b1), .val (.int b2), .val (.ref r87), .val (.ref r88), .val (.int (own_dom2 a0 a1 b0 b1)), .val (.int (0 : Int32)), .unset] [(.int (2 : Int32))]))
        refine own_by (fun t k => XS.iconst X89.here hx rfl (hb hby at_145) k) ?_
        show own_Go p.tables e below K (T89.setTop (mkF m 146 #[.val (.int q1), .val (.int q2), .val (.int q3), .val (.int (2 : Int32)), .val (.int a0), .val (.int a1), .val (.int a2), .val (.int b0), .val (.int b1), .val (.int b2), .val (.ref r87), .val (.ref r88), .val (.int (own_dom2 a0 a1 b0 b1)), .val (.int (0 : Int32)), .unset] [(.int (1 : Int32)), (.int (2 : Int32))]))
        have hc146 : ¬ ((2 : Int32) < (1 : Int32)) := by decide
        refine own_by (fun t k => XS.icmpNo X89.here hx rfl (hb hby at_146) rfl (flt hc146).1 k) ?_
        show own_Go p.tables e below K (T89.setTop (mkF m 149 #[.val (.int q1), .val (.int q2), .val (.int q3), .val (.int (2 : Int32)), .val (.int a0), .val (.int a1), .val (.int a2), .val (.int b0), .val (.int b1), .val (.int b2), .val (.ref r87), .val (.ref r88), .val (.int (own_dom2 a0 a1 b0 b1)), .val (.int (0 : Int32)), .unset] []))
        refine own_by (fun t k => XS.iload X89.here hx rfl (hb hby at_149) rfl k) ?_
        show own_Go p.tables e below K (T89.setTop (mkF m 151 #[.val (.int q1), .val (.int q2), .val (.int q3), .val (.int (2 : Int32)), .val (.int a0), .val (.int a1), .val (.int a2), .val (.int b0), .val (.int b1), .val (.int b2), .val (.ref r87), .val (.ref r88), .val (.int (own_dom2 a0 a1 b0 b1)), .val (.int (0 : Int32)), .unset] [(.int a0)]))
        refine own_by (fun t k => XS.iload X89.here hx rfl (hb hby at_151) rfl k) ?_
        show own_Go p.tables e below K (T89.setTop (mkF m 153 #[.val (.int q1), .val (.int q2), .val (.int q3), .val (.int (2 : Int32)), .val (.int a0), .val (.int a1), .val (.int a2), .val (.int b0), .val (.int b1), .val (.int b2), .val (.ref r87), .val (.ref r88), .val (.int (own_dom2 a0 a1 b0 b1)), .val (.int (0 : Int32)), .unset] [(.int b0), (.int a0)]))
        by_cases hc153 : a0 < b0
        · refine own_by (fun t k => XS.icmpYes X89.here hx rfl (pc0 := 153) (pc' := 180) rfl (hb hby at_153) rfl (tlt hc153).1 (by decide) (by decide) k) ?_
          show own_Go p.tables e below K (T89.setTop (mkF m 180 #[.val (.int q1), .val (.int q2), .val (.int q3), .val (.int (2 : Int32)), .val (.int a0), .val (.int a1), .val (.int a2), .val (.int b0), .val (.int b1), .val (.int b2), .val (.ref r87), .val (.ref r88), .val (.int (own_dom2 a0 a1 b0 b1)), .val (.int (0 : Int32)), .unset] []))
          refine own_by (fun t k => XS.iconst X89.here hx rfl (hb hby at_180) k) ?_
          show own_Go p.tables e below K (T89.setTop (mkF m 181 #[.val (.int q1), .val (.int q2), .val (.int q3), .val (.int (2 : Int32)), .val (.int a0), .val (.int a1), .val (.int a2), .val (.int b0), .val (.int b1), .val (.int b2), .val (.ref r87), .val (.ref r88), .val (.int (own_dom2 a0 a1 b0 b1)), .val (.int (0 : Int32)), .unset] [(.int (1 : Int32))]))
          refine own_by (fun t k => XS.goto X89.here hx rfl (pc0 := 181) (pc' := 185) rfl (hb hby at_181) (by decide) (by decide) k) ?_
          show own_Go p.tables e below K (T89.setTop (mkF m 185 #[.val (.int q1), .val (.int q2), .val (.int q3), .val (.int (2 : Int32)), .val (.int a0), .val (.int a1), .val (.int a2), .val (.int b0), .val (.int b1), .val (.int b2), .val (.ref r87), .val (.ref r88), .val (.int (own_dom2 a0 a1 b0 b1)), .val (.int (0 : Int32)), .unset] [(.int (1 : Int32))]))
          refine own_by (fun t k => XS.istore X89.here hx rfl (hb hby at_185) rfl (l' := #[.val (.int q1), .val (.int q2), .val (.int q3), .val (.int (2 : Int32)), .val (.int a0), .val (.int a1), .val (.int a2), .val (.int b0), .val (.int b1), .val (.int b2), .val (.ref r87), .val (.ref r88), .val (.int (own_dom2 a0 a1 b0 b1)), .val (.int (0 : Int32)), .val (.int (1 : Int32))]) rfl k) ?_
          show own_Go p.tables e below K (T89.setTop (mkF m 187 #[.val (.int q1), .val (.int q2), .val (.int q3), .val (.int (2 : Int32)), .val (.int a0), .val (.int a1), .val (.int a2), .val (.int b0), .val (.int b1), .val (.int b2), .val (.ref r87), .val (.ref r88), .val (.int (own_dom2 a0 a1 b0 b1)), .val (.int (0 : Int32)), .val (.int (1 : Int32))] []))
          refine own_by (fun t k => XS.iload X89.here hx rfl (hb hby at_187) rfl k) ?_
          show own_Go p.tables e below K (T89.setTop (mkF m 189 #[.val (.int q1), .val (.int q2), .val (.int q3), .val (.int (2 : Int32)), .val (.int a0), .val (.int a1), .val (.int a2), .val (.int b0), .val (.int b1), .val (.int b2), .val (.ref r87), .val (.ref r88), .val (.int (own_dom2 a0 a1 b0 b1)), .val (.int (0 : Int32)), .val (.int (1 : Int32))] [(.int (own_dom2 a0 a1 b0 b1))]))
          refine own_by (fun t k => XS.iload X89.here hx rfl (hb hby at_189) rfl k) ?_
          show own_Go p.tables e below K (T89.setTop (mkF m 191 #[.val (.int q1), .val (.int q2), .val (.int q3), .val (.int (2 : Int32)), .val (.int a0), .val (.int a1), .val (.int a2), .val (.int b0), .val (.int b1), .val (.int b2), .val (.ref r87), .val (.ref r88), .val (.int (own_dom2 a0 a1 b0 b1)), .val (.int (0 : Int32)), .val (.int (1 : Int32))] [(.int (0 : Int32)), (.int (own_dom2 a0 a1 b0 b1))]))
          have hc191 : (0 : Int32) = (0 : Int32) := by decide
          refine own_by (fun t k => XS.ifYes X89.here hx rfl (pc0 := 191) (pc' := 203) rfl (hb hby at_191) rfl ((if0 _ _).trans (teq hc191).1) (by decide) (by decide) k) ?_
          show own_Go p.tables e below K (T89.setTop (mkF m 203 #[.val (.int q1), .val (.int q2), .val (.int q3), .val (.int (2 : Int32)), .val (.int a0), .val (.int a1), .val (.int a2), .val (.int b0), .val (.int b1), .val (.int b2), .val (.ref r87), .val (.ref r88), .val (.int (own_dom2 a0 a1 b0 b1)), .val (.int (0 : Int32)), .val (.int (1 : Int32))] [(.int (own_dom2 a0 a1 b0 b1))]))
          refine own_by (fun t k => XS.iconst X89.here hx rfl (hb hby at_203) k) ?_
          show own_Go p.tables e below K (T89.setTop (mkF m 204 #[.val (.int q1), .val (.int q2), .val (.int q3), .val (.int (2 : Int32)), .val (.int a0), .val (.int a1), .val (.int a2), .val (.int b0), .val (.int b1), .val (.int b2), .val (.ref r87), .val (.ref r88), .val (.int (own_dom2 a0 a1 b0 b1)), .val (.int (0 : Int32)), .val (.int (1 : Int32))] [(.int (0 : Int32)), (.int (own_dom2 a0 a1 b0 b1))]))
          have hc204 : (own_dom2 a0 a1 b0 b1) = (0 : Int32) := by simp_all [own_dom2]
          refine own_by (fun t k => XS.icmpNo X89.here hx rfl (hb hby at_204) rfl (teq hc204).2 k) ?_
          show own_Go p.tables e below K (T89.setTop (mkF m 207 #[.val (.int q1), .val (.int q2), .val (.int q3), .val (.int (2 : Int32)), .val (.int a0), .val (.int a1), .val (.int a2), .val (.int b0), .val (.int b1), .val (.int b2), .val (.ref r87), .val (.ref r88), .val (.int (own_dom2 a0 a1 b0 b1)), .val (.int (0 : Int32)), .val (.int (1 : Int32))] []))
          refine own_by (fun t k => XS.iconst X89.here hx rfl (hb hby at_207) k) ?_
          show own_Go p.tables e below K (T89.setTop (mkF m 208 #[.val (.int q1), .val (.int q2), .val (.int q3), .val (.int (2 : Int32)), .val (.int a0), .val (.int a1), .val (.int a2), .val (.int b0), .val (.int b1), .val (.int b2), .val (.ref r87), .val (.ref r88), .val (.int (own_dom2 a0 a1 b0 b1)), .val (.int (0 : Int32)), .val (.int (1 : Int32))] [(.int (1 : Int32))]))
          refine own_by (fun t k => XS.goto X89.here hx rfl (pc0 := 208) (pc' := 212) rfl (hb hby at_208) (by decide) (by decide) k) ?_
          show own_Go p.tables e below K (T89.setTop (mkF m 212 #[.val (.int q1), .val (.int q2), .val (.int q3), .val (.int (2 : Int32)), .val (.int a0), .val (.int a1), .val (.int a2), .val (.int b0), .val (.int b1), .val (.int b2), .val (.ref r87), .val (.ref r88), .val (.int (own_dom2 a0 a1 b0 b1)), .val (.int (0 : Int32)), .val (.int (1 : Int32))] [(.int (1 : Int32))]))
          exact own_retZ X89 hx (t := .boolean) hret (by simp) (hb hby at_212) (hK (some (.int (1 : Int32))) X89 (fun h => by rw [hret] at h; cases h) (⟨rfl, N89⟩) (by decide) (by decide))
        · refine own_by (fun t k => XS.icmpNo X89.here hx rfl (hb hby at_153) rfl (flt hc153).1 k) ?_
          show own_Go p.tables e below K (T89.setTop (mkF m 156 #[.val (.int q1), .val (.int q2), .val (.int q3), .val (.int (2 : Int32)), .val (.int a0), .val (.int a1), .val (.int a2), .val (.int b0), .val (.int b1), .val (.int b2), .val (.ref r87), .val (.ref r88), .val (.int (own_dom2 a0 a1 b0 b1)), .val (.int (0 : Int32)), .unset] []))
          refine own_by (fun t k => XS.iloadN X89.here hx rfl (hb hby at_156) rfl k) ?_
          show own_Go p.tables e below K (T89.setTop (mkF m 157 #[.val (.int q1), .val (.int q2), .val (.int q3), .val (.int (2 : Int32)), .val (.int a0), .val (.int a1), .val (.int a2), .val (.int b0), .val (.int b1), .val (.int b2), .val (.ref r87), .val (.ref r88), .val (.int (own_dom2 a0 a1 b0 b1)), .val (.int (0 : Int32)), .unset] [(.int (2 : Int32))]))
          refine own_by (fun t k => XS.iconst X89.here hx rfl (hb hby at_157) k) ?_
          show own_Go p.tables e below K (T89.setTop (mkF m 158 #[.val (.int q1), .val (.int q2), .val (.int q3), .val (.int (2 : Int32)), .val (.int a0), .val (.int a1), .val (.int a2), .val (.int b0), .val (.int b1), .val (.int b2), .val (.ref r87), .val (.ref r88), .val (.int (own_dom2 a0 a1 b0 b1)), .val (.int (0 : Int32)), .unset] [(.int (2 : Int32)), (.int (2 : Int32))]))
          have hc158 : ¬ ((2 : Int32) < (2 : Int32)) := by decide
          refine own_by (fun t k => XS.icmpNo X89.here hx rfl (hb hby at_158) rfl (flt hc158).1 k) ?_
          show own_Go p.tables e below K (T89.setTop (mkF m 161 #[.val (.int q1), .val (.int q2), .val (.int q3), .val (.int (2 : Int32)), .val (.int a0), .val (.int a1), .val (.int a2), .val (.int b0), .val (.int b1), .val (.int b2), .val (.ref r87), .val (.ref r88), .val (.int (own_dom2 a0 a1 b0 b1)), .val (.int (0 : Int32)), .unset] []))
          refine own_by (fun t k => XS.iload X89.here hx rfl (hb hby at_161) rfl k) ?_
          show own_Go p.tables e below K (T89.setTop (mkF m 163 #[.val (.int q1), .val (.int q2), .val (.int q3), .val (.int (2 : Int32)), .val (.int a0), .val (.int a1), .val (.int a2), .val (.int b0), .val (.int b1), .val (.int b2), .val (.ref r87), .val (.ref r88), .val (.int (own_dom2 a0 a1 b0 b1)), .val (.int (0 : Int32)), .unset] [(.int a1)]))
          refine own_by (fun t k => XS.iload X89.here hx rfl (hb hby at_163) rfl k) ?_
          show own_Go p.tables e below K (T89.setTop (mkF m 165 #[.val (.int q1), .val (.int q2), .val (.int q3), .val (.int (2 : Int32)), .val (.int a0), .val (.int a1), .val (.int a2), .val (.int b0), .val (.int b1), .val (.int b2), .val (.ref r87), .val (.ref r88), .val (.int (own_dom2 a0 a1 b0 b1)), .val (.int (0 : Int32)), .unset] [(.int b1), (.int a1)]))
          by_cases hc165 : a1 < b1
          · refine own_by (fun t k => XS.icmpYes X89.here hx rfl (pc0 := 165) (pc' := 180) rfl (hb hby at_165) rfl (tlt hc165).1 (by decide) (by decide) k) ?_
            show own_Go p.tables e below K (T89.setTop (mkF m 180 #[.val (.int q1), .val (.int q2), .val (.int q3), .val (.int (2 : Int32)), .val (.int a0), .val (.int a1), .val (.int a2), .val (.int b0), .val (.int b1), .val (.int b2), .val (.ref r87), .val (.ref r88), .val (.int (own_dom2 a0 a1 b0 b1)), .val (.int (0 : Int32)), .unset] []))
            refine own_by (fun t k => XS.iconst X89.here hx rfl (hb hby at_180) k) ?_
            show own_Go p.tables e below K (T89.setTop (mkF m 181 #[.val (.int q1), .val (.int q2), .val (.int q3), .val (.int (2 : Int32)), .val (.int a0), .val (.int a1), .val (.int a2), .val (.int b0), .val (.int b1), .val (.int b2), .val (.ref r87), .val (.ref r88), .val (.int (own_dom2 a0 a1 b0 b1)), .val (.int (0 : Int32)), .unset] [(.int (1 : Int32))]))
            refine own_by (fun t k => XS.goto X89.here hx rfl (pc0 := 181) (pc' := 185) rfl (hb hby at_181) (by decide) (by decide) k) ?_
            show own_Go p.tables e below K (T89.setTop (mkF m 185 #[.val (.int q1), .val (.int q2), .val (.int q3), .val (.int (2 : Int32)), .val (.int a0), .val (.int a1), .val (.int a2), .val (.int b0), .val (.int b1), .val (.int b2), .val (.ref r87), .val (.ref r88), .val (.int (own_dom2 a0 a1 b0 b1)), .val (.int (0 : Int32)), .unset] [(.int (1 : Int32))]))
            refine own_by (fun t k => XS.istore X89.here hx rfl (hb hby at_185) rfl (l' := #[.val (.int q1), .val (.int q2), .val (.int q3), .val (.int (2 : Int32)), .val (.int a0), .val (.int a1), .val (.int a2), .val (.int b0), .val (.int b1), .val (.int b2), .val (.ref r87), .val (.ref r88), .val (.int (own_dom2 a0 a1 b0 b1)), .val (.int (0 : Int32)), .val (.int (1 : Int32))]) rfl k) ?_
            show own_Go p.tables e below K (T89.setTop (mkF m 187 #[.val (.int q1), .val (.int q2), .val (.int q3), .val (.int (2 : Int32)), .val (.int a0), .val (.int a1), .val (.int a2), .val (.int b0), .val (.int b1), .val (.int b2), .val (.ref r87), .val (.ref r88), .val (.int (own_dom2 a0 a1 b0 b1)), .val (.int (0 : Int32)), .val (.int (1 : Int32))] []))
            refine own_by (fun t k => XS.iload X89.here hx rfl (hb hby at_187) rfl k) ?_
            show own_Go p.tables e below K (T89.setTop (mkF m 189 #[.val (.int q1), .val (.int q2), .val (.int q3), .val (.int (2 : Int32)), .val (.int a0), .val (.int a1), .val (.int a2), .val (.int b0), .val (.int b1), .val (.int b2), .val (.ref r87), .val (.ref r88), .val (.int (own_dom2 a0 a1 b0 b1)), .val (.int (0 : Int32)), .val (.int (1 : Int32))] [(.int (own_dom2 a0 a1 b0 b1))]))
            refine own_by (fun t k => XS.iload X89.here hx rfl (hb hby at_189) rfl k) ?_
            show own_Go p.tables e below K (T89.setTop (mkF m 191 #[.val (.int q1), .val (.int q2), .val (.int q3), .val (.int (2 : Int32)), .val (.int a0), .val (.int a1), .val (.int a2), .val (.int b0), .val (.int b1), .val (.int b2), .val (.ref r87), .val (.ref r88), .val (.int (own_dom2 a0 a1 b0 b1)), .val (.int (0 : Int32)), .val (.int (1 : Int32))] [(.int (0 : Int32)), (.int (own_dom2 a0 a1 b0 b1))]))
            have hc191 : (0 : Int32) = (0 : Int32) := by decide
            refine own_by (fun t k => XS.ifYes X89.here hx rfl (pc0 := 191) (pc' := 203) rfl (hb hby at_191) rfl ((if0 _ _).trans (teq hc191).1) (by decide) (by decide) k) ?_
            show own_Go p.tables e below K (T89.setTop (mkF m 203 #[.val (.int q1), .val (.int q2), .val (.int q3), .val (.int (2 : Int32)), .val (.int a0), .val (.int a1), .val (.int a2), .val (.int b0), .val (.int b1), .val (.int b2), .val (.ref r87), .val (.ref r88), .val (.int (own_dom2 a0 a1 b0 b1)), .val (.int (0 : Int32)), .val (.int (1 : Int32))] [(.int (own_dom2 a0 a1 b0 b1))]))
            refine own_by (fun t k => XS.iconst X89.here hx rfl (hb hby at_203) k) ?_
            show own_Go p.tables e below K (T89.setTop (mkF m 204 #[.val (.int q1), .val (.int q2), .val (.int q3), .val (.int (2 : Int32)), .val (.int a0), .val (.int a1), .val (.int a2), .val (.int b0), .val (.int b1), .val (.int b2), .val (.ref r87), .val (.ref r88), .val (.int (own_dom2 a0 a1 b0 b1)), .val (.int (0 : Int32)), .val (.int (1 : Int32))] [(.int (0 : Int32)), (.int (own_dom2 a0 a1 b0 b1))]))
            have hc204 : (own_dom2 a0 a1 b0 b1) = (0 : Int32) := by simp_all [own_dom2]
            refine own_by (fun t k => XS.icmpNo X89.here hx rfl (hb hby at_204) rfl (teq hc204).2 k) ?_
            show own_Go p.tables e below K (T89.setTop (mkF m 207 #[.val (.int q1), .val (.int q2), .val (.int q3), .val (.int (2 : Int32)), .val (.int a0), .val (.int a1), .val (.int a2), .val (.int b0), .val (.int b1), .val (.int b2), .val (.ref r87), .val (.ref r88), .val (.int (own_dom2 a0 a1 b0 b1)), .val (.int (0 : Int32)), .val (.int (1 : Int32))] []))
            refine own_by (fun t k => XS.iconst X89.here hx rfl (hb hby at_207) k) ?_
            show own_Go p.tables e below K (T89.setTop (mkF m 208 #[.val (.int q1), .val (.int q2), .val (.int q3), .val (.int (2 : Int32)), .val (.int a0), .val (.int a1), .val (.int a2), .val (.int b0), .val (.int b1), .val (.int b2), .val (.ref r87), .val (.ref r88), .val (.int (own_dom2 a0 a1 b0 b1)), .val (.int (0 : Int32)), .val (.int (1 : Int32))] [(.int (1 : Int32))]))
            refine own_by (fun t k => XS.goto X89.here hx rfl (pc0 := 208) (pc' := 212) rfl (hb hby at_208) (by decide) (by decide) k) ?_
            show own_Go p.tables e below K (T89.setTop (mkF m 212 #[.val (.int q1), .val (.int q2), .val (.int q3), .val (.int (2 : Int32)), .val (.int a0), .val (.int a1), .val (.int a2), .val (.int b0), .val (.int b1), .val (.int b2), .val (.ref r87), .val (.ref r88), .val (.int (own_dom2 a0 a1 b0 b1)), .val (.int (0 : Int32)), .val (.int (1 : Int32))] [(.int (1 : Int32))]))
            exact own_retZ X89 hx (t := .boolean) hret (by simp) (hb hby at_212) (hK (some (.int (1 : Int32))) X89 (fun h => by rw [hret] at h; cases h) (⟨rfl, N89⟩) (by decide) (by decide))
          · refine own_by (fun t k => XS.icmpNo X89.here hx rfl (hb hby at_165) rfl (flt hc165).1 k) ?_
            show own_Go p.tables e below K (T89.setTop (mkF m 168 #[.val (.int q1), .val (.int q2), .val (.int q3), .val (.int (2 : Int32)), .val (.int a0), .val (.int a1), .val (.int a2), .val (.int b0), .val (.int b1), .val (.int b2), .val (.ref r87), .val (.ref r88), .val (.int (own_dom2 a0 a1 b0 b1)), .val (.int (0 : Int32)), .unset] []))
            refine own_by (fun t k => XS.iloadN X89.here hx rfl (hb hby at_168) rfl k) ?_
            show own_Go p.tables e below K (T89.setTop (mkF m 169 #[.val (.int q1), .val (.int q2), .val (.int q3), .val (.int (2 : Int32)), .val (.int a0), .val (.int a1), .val (.int a2), .val (.int b0), .val (.int b1), .val (.int b2), .val (.ref r87), .val (.ref r88), .val (.int (own_dom2 a0 a1 b0 b1)), .val (.int (0 : Int32)), .unset] [(.int (2 : Int32))]))
            refine own_by (fun t k => XS.iconst X89.here hx rfl (hb hby at_169) k) ?_
            show own_Go p.tables e below K (T89.setTop (mkF m 170 #[.val (.int q1), .val (.int q2), .val (.int q3), .val (.int (2 : Int32)), .val (.int a0), .val (.int a1), .val (.int a2), .val (.int b0), .val (.int b1), .val (.int b2), .val (.ref r87), .val (.ref r88), .val (.int (own_dom2 a0 a1 b0 b1)), .val (.int (0 : Int32)), .unset] [(.int (3 : Int32)), (.int (2 : Int32))]))
            have hc170 : (2 : Int32) < (3 : Int32) := by decide
            refine own_by (fun t k => XS.icmpYes X89.here hx rfl (pc0 := 170) (pc' := 184) rfl (hb hby at_170) rfl (tlt hc170).1 (by decide) (by decide) k) ?_
            show own_Go p.tables e below K (T89.setTop (mkF m 184 #[.val (.int q1), .val (.int q2), .val (.int q3), .val (.int (2 : Int32)), .val (.int a0), .val (.int a1), .val (.int a2), .val (.int b0), .val (.int b1), .val (.int b2), .val (.ref r87), .val (.ref r88), .val (.int (own_dom2 a0 a1 b0 b1)), .val (.int (0 : Int32)), .unset] []))
            refine own_by (fun t k => XS.iconst X89.here hx rfl (hb hby at_184) k) ?_
            show own_Go p.tables e below K (T89.setTop (mkF m 185 #[.val (.int q1), .val (.int q2), .val (.int q3), .val (.int (2 : Int32)), .val (.int a0), .val (.int a1), .val (.int a2), .val (.int b0), .val (.int b1), .val (.int b2), .val (.ref r87), .val (.ref r88), .val (.int (own_dom2 a0 a1 b0 b1)), .val (.int (0 : Int32)), .unset] [(.int (0 : Int32))]))
            refine own_by (fun t k => XS.istore X89.here hx rfl (hb hby at_185) rfl (l' := #[.val (.int q1), .val (.int q2), .val (.int q3), .val (.int (2 : Int32)), .val (.int a0), .val (.int a1), .val (.int a2), .val (.int b0), .val (.int b1), .val (.int b2), .val (.ref r87), .val (.ref r88), .val (.int (own_dom2 a0 a1 b0 b1)), .val (.int (0 : Int32)), .val (.int (0 : Int32))]) rfl k) ?_
            show own_Go p.tables e below K (T89.setTop (mkF m 187 #[.val (.int q1), .val (.int q2), .val (.int q3), .val (.int (2 : Int32)), .val (.int a0), .val (.int a1), .val (.int a2), .val (.int b0), .val (.int b1), .val (.int b2), .val (.ref r87), .val (.ref r88), .val (.int (own_dom2 a0 a1 b0 b1)), .val (.int (0 : Int32)), .val (.int (0 : Int32))] []))
            refine own_by (fun t k => XS.iload X89.here hx rfl (hb hby at_187) rfl k) ?_
            show own_Go p.tables e below K (T89.setTop (mkF m 189 #[.val (.int q1), .val (.int q2), .val (.int q3), .val (.int (2 : Int32)), .val (.int a0), .val (.int a1), .val (.int a2), .val (.int b0), .val (.int b1), .val (.int b2), .val (.ref r87), .val (.ref r88), .val (.int (own_dom2 a0 a1 b0 b1)), .val (.int (0 : Int32)), .val (.int (0 : Int32))] [(.int (own_dom2 a0 a1 b0 b1))]))
            refine own_by (fun t k => XS.iload X89.here hx rfl (hb hby at_189) rfl k) ?_
            show own_Go p.tables e below K (T89.setTop (mkF m 191 #[.val (.int q1), .val (.int q2), .val (.int q3), .val (.int (2 : Int32)), .val (.int a0), .val (.int a1), .val (.int a2), .val (.int b0), .val (.int b1), .val (.int b2), .val (.ref r87), .val (.ref r88), .val (.int (own_dom2 a0 a1 b0 b1)), .val (.int (0 : Int32)), .val (.int (0 : Int32))] [(.int (0 : Int32)), (.int (own_dom2 a0 a1 b0 b1))]))
            have hc191 : (0 : Int32) = (0 : Int32) := by decide
            refine own_by (fun t k => XS.ifYes X89.here hx rfl (pc0 := 191) (pc' := 203) rfl (hb hby at_191) rfl ((if0 _ _).trans (teq hc191).1) (by decide) (by decide) k) ?_
            show own_Go p.tables e below K (T89.setTop (mkF m 203 #[.val (.int q1), .val (.int q2), .val (.int q3), .val (.int (2 : Int32)), .val (.int a0), .val (.int a1), .val (.int a2), .val (.int b0), .val (.int b1), .val (.int b2), .val (.ref r87), .val (.ref r88), .val (.int (own_dom2 a0 a1 b0 b1)), .val (.int (0 : Int32)), .val (.int (0 : Int32))] [(.int (own_dom2 a0 a1 b0 b1))]))
            refine own_by (fun t k => XS.iconst X89.here hx rfl (hb hby at_203) k) ?_
            show own_Go p.tables e below K (T89.setTop (mkF m 204 #[.val (.int q1), .val (.int q2), .val (.int q3), .val (.int (2 : Int32)), .val (.int a0), .val (.int a1), .val (.int a2), .val (.int b0), .val (.int b1), .val (.int b2), .val (.ref r87), .val (.ref r88), .val (.int (own_dom2 a0 a1 b0 b1)), .val (.int (0 : Int32)), .val (.int (0 : Int32))] [(.int (0 : Int32)), (.int (own_dom2 a0 a1 b0 b1))]))
            have hc204 : (own_dom2 a0 a1 b0 b1) = (0 : Int32) := by simp_all [own_dom2]
            refine own_by (fun t k => XS.icmpNo X89.here hx rfl (hb hby at_204) rfl (teq hc204).2 k) ?_
            show own_Go p.tables e below K (T89.setTop (mkF m 207 #[.val (.int q1), .val (.int q2), .val (.int q3), .val (.int (2 : Int32)), .val (.int a0), .val (.int a1), .val (.int a2), .val (.int b0), .val (.int b1), .val (.int b2), .val (.ref r87), .val (.ref r88), .val (.int (own_dom2 a0 a1 b0 b1)), .val (.int (0 : Int32)), .val (.int (0 : Int32))] []))
            refine own_by (fun t k => XS.iconst X89.here hx rfl (hb hby at_207) k) ?_
            show own_Go p.tables e below K (T89.setTop (mkF m 208 #[.val (.int q1), .val (.int q2), .val (.int q3), .val (.int (2 : Int32)), .val (.int a0), .val (.int a1), .val (.int a2), .val (.int b0), .val (.int b1), .val (.int b2), .val (.ref r87), .val (.ref r88), .val (.int (own_dom2 a0 a1 b0 b1)), .val (.int (0 : Int32)), .val (.int (0 : Int32))] [(.int (1 : Int32))]))
            refine own_by (fun t k => XS.goto X89.here hx rfl (pc0 := 208) (pc' := 212) rfl (hb hby at_208) (by decide) (by decide) k) ?_
            show own_Go p.tables e below K (T89.setTop (mkF m 212 #[.val (.int q1), .val (.int q2), .val (.int q3), .val (.int (2 : Int32)), .val (.int a0), .val (.int a1), .val (.int a2), .val (.int b0), .val (.int b1), .val (.int b2), .val (.ref r87), .val (.ref r88), .val (.int (own_dom2 a0 a1 b0 b1)), .val (.int (0 : Int32)), .val (.int (0 : Int32))] [(.int (1 : Int32))]))
            exact own_retZ X89 hx (t := .boolean) hret (by simp) (hb hby at_212) (hK (some (.int (1 : Int32))) X89 (fun h => by rw [hret] at h; cases h) (⟨rfl, N89⟩) (by decide) (by decide))
      · refine own_by (fun t k => XS.icmpNo X89.here hx rfl (hb hby at_110) rfl (flt hc110).2.2.1 k) ?_
        show own_Go p.tables e below K (T89.setTop (mkF m 113 #[.val (.int q1), .val (.int q2), .val (.int q3), .val (.int (2 : Int32)), .val (.int a0), .val (.int a1), .val (.int a2), .val (.int b0), .val (.int b1), .val (.int b2), .val (.ref r87), .val (.ref r88), .val (.int (own_dom2 a0 a1 b0 b1)), .unset, .unset] []))
        refine own_by (fun t k => XS.iloadN X89.here hx rfl (hb hby at_113) rfl k) ?_
        show own_Go p.tables e below K (T89.setTop (mkF m 114 #[.val (.int q1), .val (.int q2), .val (.int q3), .val (.int (2 : Int32)), .val (.int a0), .val (.int a1), .val (.int a2), .val (.int b0), .val (.int b1), .val (.int b2), .val (.ref r87), .val (.ref r88), .val (.int (own_dom2 a0 a1 b0 b1)), .unset, .unset] [(.int (2 : Int32))]))
        refine own_by (fun t k => XS.iconst X89.here hx rfl (hb hby at_114) k) ?_
        show own_Go p.tables e below K (T89.setTop (mkF m 115 #[.val (.int q1), .val (.int q2), .val (.int q3), .val (.int (2 : Int32)), .val (.int a0), .val (.int a1), .val (.int a2), .val (.int b0), .val (.int b1), .val (.int b2), .val (.ref r87), .val (.ref r88), .val (.int (own_dom2 a0 a1 b0 b1)), .unset, .unset] [(.int (2 : Int32)), (.int (2 : Int32))]))
        have hc115 : ¬ ((2 : Int32) < (2 : Int32)) := by decide
        refine own_by (fun t k => XS.icmpNo X89.here hx rfl (hb hby at_115) rfl (flt hc115).1 k) ?_
        show own_Go p.tables e below K (T89.setTop (mkF m 118 #[.val (.int q1), .val (.int q2), .val (.int q3), .val (.int (2 : Int32)), .val (.int a0), .val (.int a1), .val (.int a2), .val (.int b0), .val (.int b1), .val (.int b2), .val (.ref r87), .val (.ref r88), .val (.int (own_dom2 a0 a1 b0 b1)), .unset, .unset] []))
        refine own_by (fun t k => XS.iload X89.here hx rfl (hb hby at_118) rfl k) ?_
        show own_Go p.tables e below K (T89.setTop (mkF m 120 #[.val (.int q1), .val (.int q2), .val (.int q3), .val (.int (2 : Int32)), .val (.int a0), .val (.int a1), .val (.int a2), .val (.int b0), .val (.int b1), .val (.int b2), .val (.ref r87), .val (.ref r88), .val (.int (own_dom2 a0 a1 b0 b1)), .unset, .unset] [(.int a1)]))
        refine own_by (fun t k => XS.iload X89.here hx rfl (hb hby at_120) rfl k) ?_
        show own_Go p.tables e below K (T89.setTop (mkF m 122 #[.val (.int q1), .val (.int q2), .val (.int q3), .val (.int (2 : Int32)), .val (.int a0), .val (.int a1), .val (.int a2), .val (.int b0), .val (.int b1), .val (.int b2), .val (.ref r87), .val (.ref r88), .val (.int (own_dom2 a0 a1 b0 b1)), .unset, .unset] [(.int b1), (.int a1)]))
        by_cases hc122 : b1 < a1
        · refine own_by (fun t k => XS.icmpYes X89.here hx rfl (pc0 := 122) (pc' := 141) rfl (hb hby at_122) rfl (tlt hc122).2.2.1 (by decide) (by decide) k) ?_
          show own_Go p.tables e below K (T89.setTop (mkF m 141 #[.val (.int q1), .val (.int q2), .val (.int q3), .val (.int (2 : Int32)), .val (.int a0), .val (.int a1), .val (.int a2), .val (.int b0), .val (.int b1), .val (.int b2), .val (.ref r87), .val (.ref r88), .val (.int (own_dom2 a0 a1 b0 b1)), .unset, .unset] []))
          refine own_by (fun t k => XS.iconst X89.here hx rfl (hb hby at_141) k) ?_
          show own_Go p.tables e below K (T89.setTop (mkF m 142 #[.val (.int q1), .val (.int q2), .val (.int q3), .val (.int (2 : Int32)), .val (.int a0), .val (.int a1), .val (.int a2), .val (.int b0), .val (.int b1), .val (.int b2), .val (.ref r87), .val (.ref r88), .val (.int (own_dom2 a0 a1 b0 b1)), .unset, .unset] [(.int (0 : Int32))]))
          refine own_by (fun t k => XS.istore X89.here hx rfl (hb hby at_142) rfl (l' := #[.val (.int q1), .val (.int q2), .val (.int q3), .val (.int (2 : Int32)), .val (.int a0), .val (.int a1), .val (.int a2), .val (.int b0), .val (.int b1), .val (.int b2), .val (.ref r87), .val (.ref r88), .val (.int (own_dom2 a0 a1 b0 b1)), .val (.int (0 : Int32)), .unset]) rfl k) ?_
          show own_Go p.tables e below K (T89.setTop (mkF m 144 #[.val (.int q1), .val (.int q2), .val (.int q3), .val (.int (2 : Int32)), .val (.int a0), .val (.int a1), .val (.int a2), .val (.int b0), .val (.int b1), .val (.int b2), .val (.ref r87), .val (.ref r88), .val (.int (own_dom2 a0 a1 b0 b1)), .val (.int (0 : Int32)), .unset] []))
          refine own_by (fun t k => XS.iloadN X89.here hx rfl (hb hby at_144) rfl k) ?_
          show own_Go p.tables e below K (T89.setTop (mkF m 145 #[.val (.int q1), .val (.int q2), .val (.int q3), .val (.int (2 : Int32)), .val (.int a0), .val (.int a1), .val (.int a2), .val (.int b0), .val (.int b1), .val (.int b2), .val (.ref r87), .val (.ref r88), .val (.int (own_dom2 a0 a1 b0 b1)), .val (.int (0 : Int32)), .unset] [(.int (2 : Int32))]))
          refine own_by (fun t k => XS.iconst X89.here hx rfl (hb hby at_145) k) ?_
          show own_Go p.tables e below K (T89.setTop (mkF m 146 #[.val (.int q1), .val (.int q2), .val (.int q3), .val (.int (2 : Int32)), .val (.int a0), .val (.int a1), .val (.int a2), .val (.int b0), .val (.int b1), .val (.int b2), .val (.ref r87), .val (.ref r88), .val (.int (own_dom2 a0 a1 b0 b1)), .val (.int (0 : Int32)), .unset] [(.int (1 : Int32)), (.int (2 : Int32))]))
          have hc146 : ¬ ((2 : Int32) < (1 : Int32)) := by decide
          refine own_by (fun t k => XS.icmpNo X89.here hx rfl (hb hby at_146) rfl (flt hc146).1 k) ?_
          show own_Go p.tables e below K (T89.setTop (mkF m 149 #[.val (.int q1), .val (.int q2), .val (.int q3), .val (.int (2 : Int32)), .val (.int a0), .val (.int a1), .val (.int a2), .val (.int b0), .val (.int b1), .val (.int b2), .val (.ref r87), .val (.ref r88), .val (.int (own_dom2 a0 a1 b0 b1)), .val (.int (0 : Int32)), .unset] []))
          refine own_by (fun t k => XS.iload X89.here hx rfl (hb hby at_149) rfl k) ?_
          show own_Go p.tables e below K (T89.setTop (mkF m 151 #[.val (.int q1), .val (.int q2), .val (.int q3), .val (.int (2 : Int32)), .val (.int a0), .val (.int a1), .val (.int a2), .val (.int b0), .val (.int b1), .val (.int b2), .val (.ref r87), .val (.ref r88), .val (.int (own_dom2 a0 a1 b0 b1)), .val (.int (0 : Int32)), .unset] [(.int a0)]))
          refine own_by (fun t k => XS.iload X89.here hx rfl (hb hby at_151) rfl k) ?_
          show own_Go p.tables e below K (T89.setTop (mkF m 153 #[.val (.int q1), .val (.int q2), .val (.int q3), .val (.int (2 : Int32)), .val (.int a0), .val (.int a1), .val (.int a2), .val (.int b0), .val (.int b1), .val (.int b2), .val (.ref r87), .val (.ref r88), .val (.int (own_dom2 a0 a1 b0 b1)), .val (.int (0 : Int32)), .unset] [(.int b0), (.int a0)]))
          by_cases hc153 : a0 < b0
          · refine own_by (fun t k => XS.icmpYes X89.here hx rfl (pc0 := 153) (pc' := 180) rfl (hb hby at_153) rfl (tlt hc153).1 (by decide) (by decide) k) ?_
            show own_Go p.tables e below K (T89.setTop (mkF m 180 #[.val (.int q1), .val (.int q2), .val (.int q3), .val (.int (2 : Int32)), .val (.int a0), .val (.int a1), .val (.int a2), .val (.int b0), .val (.int b1), .val (.int b2), .val (.ref r87), .val (.ref r88), .val (.int (own_dom2 a0 a1 b0 b1)), .val (.int (0 : Int32)), .unset] []))
            refine own_by (fun t k => XS.iconst X89.here hx rfl (hb hby at_180) k) ?_
            show own_Go p.tables e below K (T89.setTop (mkF m 181 #[.val (.int q1), .val (.int q2), .val (.int q3), .val (.int (2 : Int32)), .val (.int a0), .val (.int a1), .val (.int a2), .val (.int b0), .val (.int b1), .val (.int b2), .val (.ref r87), .val (.ref r88), .val (.int (own_dom2 a0 a1 b0 b1)), .val (.int (0 : Int32)), .unset] [(.int (1 : Int32))]))
            refine own_by (fun t k => XS.goto X89.here hx rfl (pc0 := 181) (pc' := 185) rfl (hb hby at_181) (by decide) (by decide) k) ?_
            show own_Go p.tables e below K (T89.setTop (mkF m 185 #[.val (.int q1), .val (.int q2), .val (.int q3), .val (.int (2 : Int32)), .val (.int a0), .val (.int a1), .val (.int a2), .val (.int b0), .val (.int b1), .val (.int b2), .val (.ref r87), .val (.ref r88), .val (.int (own_dom2 a0 a1 b0 b1)), .val (.int (0 : Int32)), .unset] [(.int (1 : Int32))]))
            refine own_by (fun t k => XS.istore X89.here hx rfl (hb hby at_185) rfl (l' := #[.val (.int q1), .val (.int q2), .val (.int q3), .val (.int (2 : Int32)), .val (.int a0), .val (.int a1), .val (.int a2), .val (.int b0), .val (.int b1), .val (.int b2), .val (.ref r87), .val (.ref r88), .val (.int (own_dom2 a0 a1 b0 b1)), .val (.int (0 : Int32)), .val (.int (1 : Int32))]) rfl k) ?_
            show own_Go p.tables e below K (T89.setTop (mkF m 187 #[.val (.int q1), .val (.int q2), .val (.int q3), .val (.int (2 : Int32)), .val (.int a0), .val (.int a1), .val (.int a2), .val (.int b0), .val (.int b1), .val (.int b2), .val (.ref r87), .val (.ref r88), .val (.int (own_dom2 a0 a1 b0 b1)), .val (.int (0 : Int32)), .val (.int (1 : Int32))] []))
            refine own_by (fun t k => XS.iload X89.here hx rfl (hb hby at_187) rfl k) ?_
            show own_Go p.tables e below K (T89.setTop (mkF m 189 #[.val (.int q1), .val (.int q2), .val (.int q3), .val (.int (2 : Int32)), .val (.int a0), .val (.int a1), .val (.int a2), .val (.int b0), .val (.int b1), .val (.int b2), .val (.ref r87), .val (.ref r88), .val (.int (own_dom2 a0 a1 b0 b1)), .val (.int (0 : Int32)), .val (.int (1 : Int32))] [(.int (own_dom2 a0 a1 b0 b1))]))
            refine own_by (fun t k => XS.iload X89.here hx rfl (hb hby at_189) rfl k) ?_
            show own_Go p.tables e below K (T89.setTop (mkF m 191 #[.val (.int q1), .val (.int q2), .val (.int q3), .val (.int (2 : Int32)), .val (.int a0), .val (.int a1), .val (.int a2), .val (.int b0), .val (.int b1), .val (.int b2), .val (.ref r87), .val (.ref r88), .val (.int (own_dom2 a0 a1 b0 b1)), .val (.int (0 : Int32)), .val (.int (1 : Int32))] [(.int (0 : Int32)), (.int (own_dom2 a0 a1 b0 b1))]))
            have hc191 : (0 : Int32) = (0 : Int32) := by decide
            refine own_by (fun t k => XS.ifYes X89.here hx rfl (pc0 := 191) (pc' := 203) rfl (hb hby at_191) rfl ((if0 _ _).trans (teq hc191).1) (by decide) (by decide) k) ?_
            show own_Go p.tables e below K (T89.setTop (mkF m 203 #[.val (.int q1), .val (.int q2), .val (.int q3), .val (.int (2 : Int32)), .val (.int a0), .val (.int a1), .val (.int a2), .val (.int b0), .val (.int b1), .val (.int b2), .val (.ref r87), .val (.ref r88), .val (.int (own_dom2 a0 a1 b0 b1)), .val (.int (0 : Int32)), .val (.int (1 : Int32))] [(.int (own_dom2 a0 a1 b0 b1))]))
            refine own_by (fun t k => XS.iconst X89.here hx rfl (hb hby at_203) k) ?_
            show own_Go p.tables e below K (T89.setTop (mkF m 204 #[.val (.int q1), .val (.int q2), .val (.int q3), .val (.int (2 : Int32)), .val (.int a0), .val (.int a1), .val (.int a2), .val (.int b0), .val (.int b1), .val (.int b2), .val (.ref r87), .val (.ref r88), .val (.int (own_dom2 a0 a1 b0 b1)), .val (.int (0 : Int32)), .val (.int (1 : Int32))] [(.int (0 : Int32)), (.int (own_dom2 a0 a1 b0 b1))]))
            have hc204 : (own_dom2 a0 a1 b0 b1) = (0 : Int32) := by simp_all [own_dom2]
            refine own_by (fun t k => XS.icmpNo X89.here hx rfl (hb hby at_204) rfl (teq hc204).2 k) ?_
            show own_Go p.tables e below K (T89.setTop (mkF m 207 #[.val (.int q1), .val (.int q2), .val (.int q3), .val (.int (2 : Int32)), .val (.int a0), .val (.int a1), .val (.int a2), .val (.int b0), .val (.int b1), .val (.int b2), .val (.ref r87), .val (.ref r88), .val (.int (own_dom2 a0 a1 b0 b1)), .val (.int (0 : Int32)), .val (.int (1 : Int32))] []))
            refine own_by (fun t k => XS.iconst X89.here hx rfl (hb hby at_207) k) ?_
            show own_Go p.tables e below K (T89.setTop (mkF m 208 #[.val (.int q1), .val (.int q2), .val (.int q3), .val (.int (2 : Int32)), .val (.int a0), .val (.int a1), .val (.int a2), .val (.int b0), .val (.int b1), .val (.int b2), .val (.ref r87), .val (.ref r88), .val (.int (own_dom2 a0 a1 b0 b1)), .val (.int (0 : Int32)), .val (.int (1 : Int32))] [(.int (1 : Int32))]))
            refine own_by (fun t k => XS.goto X89.here hx rfl (pc0 := 208) (pc' := 212) rfl (hb hby at_208) (by decide) (by decide) k) ?_
            show own_Go p.tables e below K (T89.setTop (mkF m 212 #[.val (.int q1), .val (.int q2), .val (.int q3), .val (.int (2 : Int32)), .val (.int a0), .val (.int a1), .val (.int a2), .val (.int b0), .val (.int b1), .val (.int b2), .val (.ref r87), .val (.ref r88), .val (.int (own_dom2 a0 a1 b0 b1)), .val (.int (0 : Int32)), .val (.int (1 : Int32))] [(.int (1 : Int32))]))
            exact own_retZ X89 hx (t := .boolean) hret (by simp) (hb hby at_212) (hK (some (.int (1 : Int32))) X89 (fun h => by rw [hret] at h; cases h) (⟨rfl, N89⟩) (by decide) (by decide))
          · refine own_by (fun t k => XS.icmpNo X89.here hx rfl (hb hby at_153) rfl (flt hc153).1 k) ?_
            show own_Go p.tables e below K (T89.setTop (mkF m 156 #[.val (.int q1), .val (.int q2), .val (.int q3), .val (.int (2 : Int32)), .val (.int a0), .val (.int a1), .val (.int a2), .val (.int b0), .val (.int b1), .val (.int b2), .val (.ref r87), .val (.ref r88), .val (.int (own_dom2 a0 a1 b0 b1)), .val (.int (0 : Int32)), .unset] []))
            refine own_by (fun t k => XS.iloadN X89.here hx rfl (hb hby at_156) rfl k) ?_
            show own_Go p.tables e below K (T89.setTop (mkF m 157 #[.val (.int q1), .val (.int q2), .val (.int q3), .val (.int (2 : Int32)), .val (.int a0), .val (.int a1), .val (.int a2), .val (.int b0), .val (.int b1), .val (.int b2), .val (.ref r87), .val (.ref r88), .val (.int (own_dom2 a0 a1 b0 b1)), .val (.int (0 : Int32)), .unset] [(.int (2 : Int32))]))
            refine own_by (fun t k => XS.iconst X89.here hx rfl (hb hby at_157) k) ?_
            show own_Go p.tables e below K (T89.setTop (mkF m 158 #[.val (.int q1), .val (.int q2), .val (.int q3), .val (.int (2 : Int32)), .val (.int a0), .val (.int a1), .val (.int a2), .val (.int b0), .val (.int b1), .val (.int b2), .val (.ref r87), .val (.ref r88), .val (.int (own_dom2 a0 a1 b0 b1)), .val (.int (0 : Int32)), .unset] [(.int (2 : Int32)), (.int (2 : Int32))]))
            have hc158 : ¬ ((2 : Int32) < (2 : Int32)) := by decide
            refine own_by (fun t k => XS.icmpNo X89.here hx rfl (hb hby at_158) rfl (flt hc158).1 k) ?_
            show own_Go p.tables e below K (T89.setTop (mkF m 161 #[.val (.int q1), .val (.int q2), .val (.int q3), .val (.int (2 : Int32)), .val (.int a0), .val (.int a1), .val (.int a2), .val (.int b0), .val (.int b1), .val (.int b2), .val (.ref r87), .val (.ref r88), .val (.int (own_dom2 a0 a1 b0 b1)), .val (.int (0 : Int32)), .unset] []))
            refine own_by (fun t k => XS.iload X89.here hx rfl (hb hby at_161) rfl k) ?_
            show own_Go p.tables e below K (T89.setTop (mkF m 163 #[.val (.int q1), .val (.int q2), .val (.int q3), .val (.int (2 : Int32)), .val (.int a0), .val (.int a1), .val (.int a2), .val (.int b0), .val (.int b1), .val (.int b2), .val (.ref r87), .val (.ref r88), .val (.int (own_dom2 a0 a1 b0 b1)), .val (.int (0 : Int32)), .unset] [(.int a1)]))
            refine own_by (fun t k => XS.iload X89.here hx rfl (hb hby at_163) rfl k) ?_
            show own_Go p.tables e below K (T89.setTop (mkF m 165 #[.val (.int q1), .val (.int q2), .val (.int q3), .val (.int (2 : Int32)), .val (.int a0), .val (.int a1), .val (.int a2), .val (.int b0), .val (.int b1), .val (.int b2), .val (.ref r87), .val (.ref r88), .val (.int (own_dom2 a0 a1 b0 b1)), .val (.int (0 : Int32)), .unset] [(.int b1), (.int a1)]))
            by_cases hc165 : a1 < b1
            · refine own_by (fun t k => XS.icmpYes X89.here hx rfl (pc0 := 165) (pc' := 180) rfl (hb hby at_165) rfl (tlt hc165).1 (by decide) (by decide) k) ?_
              show own_Go p.tables e below K (T89.setTop (mkF m 180 #[.val (.int q1), .val (.int q2), .val (.int q3), .val (.int (2 : Int32)), .val (.int a0), .val (.int a1), .val (.int a2), .val (.int b0), .val (.int b1), .val (.int b2), .val (.ref r87), .val (.ref r88), .val (.int (own_dom2 a0 a1 b0 b1)), .val (.int (0 : Int32)), .unset] []))
              refine own_by (fun t k => XS.iconst X89.here hx rfl (hb hby at_180) k) ?_
              show own_Go p.tables e below K (T89.setTop (mkF m 181 #[.val (.int q1), .val (.int q2), .val (.int q3), .val (.int (2 : Int32)), .val (.int a0), .val (.int a1), .val (.int a2), .val (.int b0), .val (.int b1), .val (.int b2), .val (.ref r87), .val (.ref r88), .val (.int (own_dom2 a0 a1 b0 b1)), .val (.int (0 : Int32)), .unset] [(.int (1 : Int32))]))
              refine own_by (fun t k => XS.goto X89.here hx rfl (pc0 := 181) (pc' := 185) rfl (hb hby at_181) (by decide) (by decide) k) ?_
              show own_Go p.tables e below K (T89.setTop (mkF m 185 #[.val (.int q1), .val (.int q2), .val (.int q3), .val (.int (2 : Int32)), .val (.int a0), .val (.int a1), .val (.int a2), .val (.int b0), .val (.int b1), .val (.int b2), .val (.ref r87), .val (.ref r88), .val (.int (own_dom2 a0 a1 b0 b1)), .val (.int (0 : Int32)), .unset] [(.int (1 : Int32))]))
              refine own_by (fun t k => XS.istore X89.here hx rfl (hb hby at_185) rfl (l' := #[.val (.int q1), .val (.int q2), .val (.int q3), .val (.int (2 : Int32)), .val (.int a0), .val (.int a1), .val (.int a2), .val (.int b0), .val (.int b1), .val (.int b2), .val (.ref r87), .val (.ref r88), .val (.int (own_dom2 a0 a1 b0 b1)), .val (.int (0 : Int32)), .val (.int (1 : Int32))]) rfl k) ?_
              show own_Go p.tables e below K (T89.setTop (mkF m 187 #[.val (.int q1), .val (.int q2), .val (.int q3), .val (.int (2 : Int32)), .val (.int a0), .val (.int a1), .val (.int a2), .val (.int b0), .val (.int b1), .val (.int b2), .val (.ref r87), .val (.ref r88), .val (.int (own_dom2 a0 a1 b0 b1)), .val (.int (0 : Int32)), .val (.int (1 : Int32))] []))
              refine own_by (fun t k => XS.iload X89.here hx rfl (hb hby at_187) rfl k) ?_
              show own_Go p.tables e below K (T89.setTop (mkF m 189 #[.val (.int q1), .val (.int q2), .val (.int q3), .val (.int (2 : Int32)), .val (.int a0), .val (.int a1), .val (.int a2), .val (.int b0), .val (.int b1), .val (.int b2), .val (.ref r87), .val (.ref r88), .val (.int (own_dom2 a0 a1 b0 b1)), .val (.int (0 : Int32)), .val (.int (1 : Int32))] [(.int (own_dom2 a0 a1 b0 b1))]))
              refine own_by (fun t k => XS.iload X89.here hx rfl (hb hby at_189) rfl k) ?_
              show own_Go p.tables e below K (T89.setTop (mkF m 191 #[.val (.int q1), .val (.int q2), .val (.int q3), .val (.int (2 : Int32)), .val (.int a0), .val (.int a1), .val (.int a2), .val (.int b0), .val (.int b1), .val (.int b2), .val (.ref r87), .val (.ref r88), .val (.int (own_dom2 a0 a1 b0 b1)), .val (.int (0 : Int32)), .val (.int (1 : Int32))] [(.int (0 : Int32)), (.int (own_dom2 a0 a1 b0 b1))]))
              have hc191 : (0 : Int32) = (0 : Int32) := by decide
              refine own_by (fun t k => XS.ifYes X89.here hx rfl (pc0 := 191) (pc' := 203) rfl (hb hby at_191) rfl ((if0 _ _).trans (teq hc191).1) (by decide) (by decide) k) ?_
              show own_Go p.tables e below K (T89.setTop (mkF m 203 #[.val (.int q1), .val (.int q2), .val (.int q3), .val (.int (2 : Int32)), .val (.int a0), .val (.int a1), .val (.int a2), .val (.int b0), .val (.int b1), .val (.int b2), .val (.ref r87), .val (.ref r88), .val (.int (own_dom2 a0 a1 b0 b1)), .val (.int (0 : Int32)), .val (.int (1 : Int32))] [(.int (own_dom2 a0 a1 b0 b1))]))
              refine own_by (fun t k => XS.iconst X89.here hx rfl (hb hby at_203) k) ?_
              show own_Go p.tables e below K (T89.setTop (mkF m 204 #[.val (.int q1), .val (.int q2), .val (.int q3), .val (.int (2 : Int32)), .val (.int a0), .val (.int a1), .val (.int a2), .val (.int b0), .val (.int b1), .val (.int b2), .val (.ref r87), .val (.ref r88), .val (.int (own_dom2 a0 a1 b0 b1)), .val (.int (0 : Int32)), .val (.int (1 : Int32))] [(.int (0 : Int32)), (.int (own_dom2 a0 a1 b0 b1))]))
              have hc204 : (own_dom2 a0 a1 b0 b1) = (0 : Int32) := by simp_all [own_dom2]
              refine own_by (fun t k => XS.icmpNo X89.here hx rfl (hb hby at_204) rfl (teq hc204).2 k) ?_
              show own_Go p.tables e below K (T89.setTop (mkF m 207 #[.val (.int q1), .val (.int q2), .val (.int q3), .val (.int (2 : Int32)), .val (.int a0), .val (.int a1), .val (.int a2), .val (.int b0), .val (.int b1), .val (.int b2), .val (.ref r87), .val (.ref r88), .val (.int (own_dom2 a0 a1 b0 b1)), .val (.int (0 : Int32)), .val (.int (1 : Int32))] []))
              refine own_by (fun t k => XS.iconst X89.here hx rfl (hb hby at_207) k) ?_
              show own_Go p.tables e below K (T89.setTop (mkF m 208 #[.val (.int q1), .val (.int q2), .val (.int q3), .val (.int (2 : Int32)), .val (.int a0), .val (.int a1), .val (.int a2), .val (.int b0), .val (.int b1), .val (.int b2), .val (.ref r87), .val (.ref r88), .val (.int (own_dom2 a0 a1 b0 b1)), .val (.int (0 : Int32)), .val (.int (1 : Int32))] [(.int (1 : Int32))]))
              refine own_by (fun t k => XS.goto X89.here hx rfl (pc0 := 208) (pc' := 212) rfl (hb hby at_208) (by decide) (by decide) k) ?_
              show own_Go p.tables e below K (T89.setTop (mkF m 212 #[.val (.int q1), .val (.int q2), .val (.int q3), .val (.int (2 : Int32)), .val (.int a0), .val (.int a1), .val (.int a2), .val (.int b0), .val (.int b1), .val (.int b2), .val (.ref r87), .val (.ref r88), .val (.int (own_dom2 a0 a1 b0 b1)), .val (.int (0 : Int32)), .val (.int (1 : Int32))] [(.int (1 : Int32))]))
              exact own_retZ X89 hx (t := .boolean) hret (by simp) (hb hby at_212) (hK (some (.int (1 : Int32))) X89 (fun h => by rw [hret] at h; cases h) (⟨rfl, N89⟩) (by decide) (by decide))
            · refine own_by (fun t k => XS.icmpNo X89.here hx rfl (hb hby at_165) rfl (flt hc165).1 k) ?_
              show own_Go p.tables e below K (T89.setTop (mkF m 168 #[.val (.int q1), .val (.int q2), .val (.int q3), .val (.int (2 : Int32)), .val (.int a0), .val (.int a1), .val (.int a2), .val (.int b0), .val (.int b1), .val (.int b2), .val (.ref r87), .val (.ref r88), .val (.int (own_dom2 a0 a1 b0 b1)), .val (.int (0 : Int32)), .unset] []))
              refine own_by (fun t k => XS.iloadN X89.here hx rfl (hb hby at_168) rfl k) ?_
              show own_Go p.tables e below K (T89.setTop (mkF m 169 #[.val (.int q1), .val (.int q2), .val (.int q3), .val (.int (2 : Int32)), .val (.int a0), .val (.int a1), .val (.int a2), .val (.int b0), .val (.int b1), .val (.int b2), .val (.ref r87), .val (.ref r88), .val (.int (own_dom2 a0 a1 b0 b1)), .val (.int (0 : Int32)), .unset] [(.int (2 : Int32))]))
              refine own_by (fun t k => XS.iconst X89.here hx rfl (hb hby at_169) k) ?_
              show own_Go p.tables e below K (T89.setTop (mkF m 170 #[.val (.int q1), .val (.int q2), .val (.int q3), .val (.int (2 : Int32)), .val (.int a0), .val (.int a1), .val (.int a2), .val (.int b0), .val (.int b1), .val (.int b2), .val (.ref r87), .val (.ref r88), .val (.int (own_dom2 a0 a1 b0 b1)), .val (.int (0 : Int32)), .unset] [(.int (3 : Int32)), (.int (2 : Int32))]))
              have hc170 : (2 : Int32) < (3 : Int32) := by decide
              refine own_by (fun t k => XS.icmpYes X89.here hx rfl (pc0 := 170) (pc' := 184) rfl (hb hby at_170) rfl (tlt hc170).1 (by decide) (by decide) k) ?_
              show own_Go p.tables e below K (T89.setTop (mkF m 184 #[.val (.int q1), .val (.int q2), .val (.int q3), .val (.int (2 : Int32)), .val (.int a0), .val (.int a1), .val (.int a2), .val (.int b0), .val (.int b1), .val (.int b2), .val (.ref r87), .val (.ref r88), .val (.int (own_dom2 a0 a1 b0 b1)), .val (.int (0 : Int32)), .unset] []))
              refine own_by (fun t k => XS.iconst X89.here hx rfl (hb hby at_184) k) ?_
              show own_Go p.tables e below K (T89.setTop (mkF m 185 #[.val (.int q1), .val (.int q2), .val (.int q3), .val (.int (2 : Int32)), .val (.int a0), .val (.int a1), .val (.int a2), .val (.int b0), .val (.int b1), .val (.int b2), .val (.ref r87), .val (.ref r88), .val (.int (own_dom2 a0 a1 b0 b1)), .val (.int (0 : Int32)), .unset] [(.int (0 : Int32))]))
              refine own_by (fun t k => XS.istore X89.here hx rfl (hb hby at_185) rfl (l' := #[.val (.int q1), .val (.int q2), .val (.int q3), .val (.int (2 : Int32)), .val (.int a0), .val (.int a1), .val (.int a2), .val (.int b0), .val (.int b1), .val (.int b2), .val (.ref r87), .val (.ref r88), .val (.int (own_dom2 a0 a1 b0 b1)), .val (.int (0 : Int32)), .val (.int (0 : Int32))]) rfl k) ?_
              show own_Go p.tables e below K (T89.setTop (mkF m 187 #[.val (.int q1), .val (.int q2), .val (.int q3), .val (.int (2 : Int32)), .val (.int a0), .val (.int a1), .val (.int a2), .val (.int b0), .val (.int b1), .val (.int b2), .val (.ref r87), .val (.ref r88), .val (.int (own_dom2 a0 a1 b0 b1)), .val (.int (0 : Int32)), .val (.int (0 : Int32))] []))
              refine own_by (fun t k => XS.iload X89.here hx rfl (hb hby at_187) rfl k) ?_
              show own_Go p.tables e below K (T89.setTop (mkF m 189 #[.val (.int q1), .val (.int q2), .val (.int q3), .val (.int (2 : Int32)), .val (.int a0), .val (.int a1), .val (.int a2), .val (.int b0), .val (.int b1), .val (.int b2), .val (.ref r87), .val (.ref r88), .val (.int (own_dom2 a0 a1 b0 b1)), .val (.int (0 : Int32)), .val (.int (0 : Int32))] [(.int (own_dom2 a0 a1 b0 b1))]))
              refine own_by (fun t k => XS.iload X89.here hx rfl (hb hby at_189) rfl k) ?_
              show own_Go p.tables e below K (T89.setTop (mkF m 191 #[.val (.int q1), .val (.int q2), .val (.int q3), .val (.int (2 : Int32)), .val (.int a0), .val (.int a1), .val (.int a2), .val (.int b0), .val (.int b1), .val (.int b2), .val (.ref r87), .val (.ref r88), .val (.int (own_dom2 a0 a1 b0 b1)), .val (.int (0 : Int32)), .val (.int (0 : Int32))] [(.int (0 : Int32)), (.int (own_dom2 a0 a1 b0 b1))]))
              have hc191 : (0 : Int32) = (0 : Int32) := by decide
              refine own_by (fun t k => XS.ifYes X89.here hx rfl (pc0 := 191) (pc' := 203) rfl (hb hby at_191) rfl ((if0 _ _).trans (teq hc191).1) (by decide) (by decide) k) ?_
              show own_Go p.tables e below K (T89.setTop (mkF m 203 #[.val (.int q1), .val (.int q2), .val (.int q3), .val (.int (2 : Int32)), .val (.int a0), .val (.int a1), .val (.int a2), .val (.int b0), .val (.int b1), .val (.int b2), .val (.ref r87), .val (.ref r88), .val (.int (own_dom2 a0 a1 b0 b1)), .val (.int (0 : Int32)), .val (.int (0 : Int32))] [(.int (own_dom2 a0 a1 b0 b1))]))
              refine own_by (fun t k => XS.iconst X89.here hx rfl (hb hby at_203) k) ?_
              show own_Go p.tables e below K (T89.setTop (mkF m 204 #[.val (.int q1), .val (.int q2), .val (.int q3), .val (.int (2 : Int32)), .val (.int a0), .val (.int a1), .val (.int a2), .val (.int b0), .val (.int b1), .val (.int b2), .val (.ref r87), .val (.ref r88), .val (.int (own_dom2 a0 a1 b0 b1)), .val (.int (0 : Int32)), .val (.int (0 : Int32))] [(.int (0 : Int32)), (.int (own_dom2 a0 a1 b0 b1))]))
              have hc204 : (own_dom2 a0 a1 b0 b1) = (0 : Int32) := by simp_all [own_dom2]
              refine own_by (fun t k => XS.icmpNo X89.here hx rfl (hb hby at_204) rfl (teq hc204).2 k) ?_
              show own_Go p.tables e below K (T89.setTop (mkF m 207 #[.val (.int q1), .val (.int q2), .val (.int q3), .val (.int (2 : Int32)), .val (.int a0), .val (.int a1), .val (.int a2), .val (.int b0), .val (.int b1), .val (.int b2), .val (.ref r87), .val (.ref r88), .val (.int (own_dom2 a0 a1 b0 b1)), .val (.int (0 : Int32)), .val (.int (0 : Int32))] []))
              refine own_by (fun t k => XS.iconst X89.here hx rfl (hb hby at_207) k) ?_
              show own_Go p.tables e below K (T89.setTop (mkF m 208 #[.val (.int q1), .val (.int q2), .val (.int q3), .val (.int (2 : Int32)), .val (.int a0), .val (.int a1), .val (.int a2), .val (.int b0), .val (.int b1), .val (.int b2), .val (.ref r87), .val (.ref r88), .val (.int (own_dom2 a0 a1 b0 b1)), .val (.int (0 : Int32)), .val (.int (0 : Int32))] [(.int (1 : Int32))]))
              refine own_by (fun t k => XS.goto X89.here hx rfl (pc0 := 208) (pc' := 212) rfl (hb hby at_208) (by decide) (by decide) k) ?_
              show own_Go p.tables e below K (T89.setTop (mkF m 212 #[.val (.int q1), .val (.int q2), .val (.int q3), .val (.int (2 : Int32)), .val (.int a0), .val (.int a1), .val (.int a2), .val (.int b0), .val (.int b1), .val (.int b2), .val (.ref r87), .val (.ref r88), .val (.int (own_dom2 a0 a1 b0 b1)), .val (.int (0 : Int32)), .val (.int (0 : Int32))] [(.int (1 : Int32))]))
              exact own_retZ X89 hx (t := .boolean) hret (by simp) (hb hby at_212) (hK (some (.int (1 : Int32))) X89 (fun h => by rw [hret] at h; cases h) (⟨rfl, N89⟩) (by decide) (by decide))
        · refine own_by (fun t k => XS.icmpNo X89.here hx rfl (hb hby at_122) rfl (flt hc122).2.2.1 k) ?_
          show own_Go p.tables e below K (T89.setTop (mkF m 125 #[.val (.int q1), .val (.int q2), .val (.int q3), .val (.int (2 : Int32)), .val (.int a0), .val (.int a1), .val (.int a2), .val (.int b0), .val (.int b1), .val (.int b2), .val (.ref r87), .val (.ref r88), .val (.int (own_dom2 a0 a1 b0 b1)), .unset, .unset] []))
          refine own_by (fun t k => XS.iloadN X89.here hx rfl (hb hby at_125) rfl k) ?_
          show own_Go p.tables e below K (T89.setTop (mkF m 126 #[.val (.int q1), .val (.int q2), .val (.int q3), .val (.int (2 : Int32)), .val (.int a0), .val (.int a1), .val (.int a2), .val (.int b0), .val (.int b1), .val (.int b2), .val (.ref r87), .val (.ref r88), .val (.int (own_dom2 a0 a1 b0 b1)), .unset, .unset] [(.int (2 : Int32))]))
          refine own_by (fun t k => XS.iconst X89.here hx rfl (hb hby at_126) k) ?_
          show own_Go p.tables e below K (T89.setTop (mkF m 127 #[.val (.int q1), .val (.int q2), .val (.int q3), .val (.int (2 : Int32)), .val (.int a0), .val (.int a1), .val (.int a2), .val (.int b0), .val (.int b1), .val (.int b2), .val (.ref r87), .val (.ref r88), .val (.int (own_dom2 a0 a1 b0 b1)), .unset, .unset] [(.int (3 : Int32)), (.int (2 : Int32))]))
          have hc127 : (2 : Int32) < (3 : Int32) := by decide
          refine own_by (fun t k => XS.icmpYes X89.here hx rfl (pc0 := 127) (pc' := 137) rfl (hb hby at_127) rfl (tlt hc127).1 (by decide) (by decide) k) ?_
          show own_Go p.tables e below K (T89.setTop (mkF m 137 #[.val (.int q1), .val (.int q2), .val (.int q3), .val (.int (2 : Int32)), .val (.int a0), .val (.int a1), .val (.int a2), .val (.int b0), .val (.int b1), .val (.int b2), .val (.ref r87), .val (.ref r88), .val (.int (own_dom2 a0 a1 b0 b1)), .unset, .unset] []))
          refine own_by (fun t k => XS.iconst X89.here hx rfl (hb hby at_137) k) ?_
          show own_Go p.tables e below K (T89.setTop (mkF m 138 #[.val (.int q1), .val (.int q2), .val (.int q3), .val (.int (2 : Int32)), .val (.int a0), .val (.int a1), .val (.int a2), .val (.int b0), .val (.int b1), .val (.int b2), .val (.ref r87), .val (.ref r88), .val (.int (own_dom2 a0 a1 b0 b1)), .unset, .unset] [(.int (1 : Int32))]))
          refine own_by (fun t k => XS.goto X89.here hx rfl (pc0 := 138) (pc' := 142) rfl (hb hby at_138) (by decide) (by decide) k) ?_
          show own_Go p.tables e below K (T89.setTop (mkF m 142 #[.val (.int q1), .val (.int q2), .val (.int q3), .val (.int (2 : Int32)), .val (.int a0), .val (.int a1), .val (.int a2), .val (.int b0), .val (.int b1), .val (.int b2), .val (.ref r87), .val (.ref r88), .val (.int (own_dom2 a0 a1 b0 b1)), .unset, .unset] [(.int (1 : Int32))]))
          refine own_by (fun t k => XS.istore X89.here hx rfl (hb hby at_142) rfl (l' := #[.val (.int q1), .val (.int q2), .val (.int q3), .val (.int (2 : Int32)), .val (.int a0), .val (.int a1), .val (.int a2), .val (.int b0), .val (.int b1), .val (.int b2), .val (.ref r87), .val (.ref r88), .val (.int (own_dom2 a0 a1 b0 b1)), .val (.int (1 : Int32)), .unset]) rfl k) ?_
          show own_Go p.tables e below K (T89.setTop (mkF m 144 #[.val (.int q1), .val (.int q2), .val (.int q3), .val (.int (2 : Int32)), .val (.int a0), .val (.int a1), .val (.int a2), .val (.int b0), .val (.int b1), .val (.int b2), .val (.ref r87), .val (.ref r88), .val (.int (own_dom2 a0 a1 b0 b1)), .val (.int (1 : Int32)), .unset] []))
          refine own_by (fun t k => XS.iloadN X89.here hx rfl (hb hby at_144) rfl k) ?_
          show own_Go p.tables e below K (T89.setTop (mkF m 145 #[.val (.int q1), .val (.int q2), .val (.int q3), .val (.int (2 : Int32)), .val (.int a0), .val (.int a1), .val (.int a2), .val (.int b0), .val (.int b1), .val (.int b2), .val (.ref r87), .val (.ref r88), .val (.int (own_dom2 a0 a1 b0 b1)), .val (.int (1 : Int32)), .unset] [(.int (2 : Int32))]))
          refine own_by (fun t k => XS.iconst X89.here hx rfl (hb hby at_145) k) ?_
          show own_Go p.tables e below K (T89.setTop (mkF m 146 #[.val (.int q1), .val (.int q2), .val (.int q3), .val (.int (2 : Int32)), .val (.int a0), .val (.int a1), .val (.int a2), .val (.int b0), .val (.int b1), .val (.int b2), .val (.ref r87), .val (.ref r88), .val (.int (own_dom2 a0 a1 b0 b1)), .val (.int (1 : Int32)), .unset] [(.int (1 : Int32)), (.int (2 : Int32))]))
          have hc146 : ¬ ((2 : Int32) < (1 : Int32)) := by decide
          refine own_by (fun t k => XS.icmpNo X89.here hx rfl (hb hby at_146) rfl (flt hc146).1 k) ?_
          show own_Go p.tables e below K (T89.setTop (mkF m 149 #[.val (.int q1), .val (.int q2), .val (.int q3), .val (.int (2 : Int32)), .val (.int a0), .val (.int a1), .val (.int a2), .val (.int b0), .val (.int b1), .val (.int b2), .val (.ref r87), .val (.ref r88), .val (.int (own_dom2 a0 a1 b0 b1)), .val (.int (1 : Int32)), .unset] []))
          refine own_by (fun t k => XS.iload X89.here hx rfl (hb hby at_149) rfl k) ?_
          show own_Go p.tables e below K (T89.setTop (mkF m 151 #[.val (.int q1), .val (.int q2), .val (.int q3), .val (.int (2 : Int32)), .val (.int a0), .val (.int a1), .val (.int a2), .val (.int b0), .val (.int b1), .val (.int b2), .val (.ref r87), .val (.ref r88), .val (.int (own_dom2 a0 a1 b0 b1)), .val (.int (1 : Int32)), .unset] [(.int a0)]))
          refine own_by (fun t k => XS.iload X89.here hx rfl (hb hby at_151) rfl k) ?_
          show own_Go p.tables e below K (T89.setTop (mkF m 153 #[.val (.int q1), .val (.int q2), .val (.int q3), .val (.int (2 : Int32)), .val (.int a0), .val (.int a1), .val (.int a2), .val (.int b0), .val (.int b1), .val (.int b2), .val (.ref r87), .val (.ref r88), .val (.int (own_dom2 a0 a1 b0 b1)), .val (.int (1 : Int32)), .unset] [(.int b0), (.int a0)]))
          by_cases hc153 : a0 < b0
          · refine own_by (fun t k => XS.icmpYes X89.here hx rfl (pc0 := 153) (pc' := 180) rfl (hb hby at_153) rfl (tlt hc153).1 (by decide) (by decide) k) ?_
            show own_Go p.tables e below K (T89.setTop (mkF m 180 #[.val (.int q1), .val (.int q2), .val (.int q3), .val (.int (2 : Int32)), .val (.int a0), .val (.int a1), .val (.int a2), .val (.int b0), .val (.int b1), .val (.int b2), .val (.ref r87), .val (.ref r88), .val (.int (own_dom2 a0 a1 b0 b1)), .val (.int (1 : Int32)), .unset] []))
            refine own_by (fun t k => XS.iconst X89.here hx rfl (hb hby at_180) k) ?_
            show own_Go p.tables e below K (T89.setTop (mkF m 181 #[.val (.int q1), .val (.int q2), .val (.int q3), .val (.int (2 : Int32)), .val (.int a0), .val (.int a1), .val (.int a2), .val (.int b0), .val (.int b1), .val (.int b2), .val (.ref r87), .val (.ref r88), .val (.int (own_dom2 a0 a1 b0 b1)), .val (.int (1 : Int32)), .unset] [(.int (1 : Int32))]))
            refine own_by (fun t k => XS.goto X89.here hx rfl (pc0 := 181) (pc' := 185) rfl (hb hby at_181) (by decide) (by decide) k) ?_
            show own_Go p.tables e below K (T89.setTop (mkF m 185 #[.val (.int q1), .val (.int q2), .val (.int q3), .val (.int (2 : Int32)), .val (.int a0), .val (.int a1), .val (.int a2), .val (.int b0), .val (.int b1), .val (.int b2), .val (.ref r87), .val (.ref r88), .val (.int (own_dom2 a0 a1 b0 b1)), .val (.int (1 : Int32)), .unset] [(.int (1 : Int32))]))
            refine own_by (fun t k => XS.istore X89.here hx rfl (hb hby at_185) rfl (l' := #[.val (.int q1), .val (.int q2), .val (.int q3), .val (.int (2 : Int32)), .val (.int a0), .val (.int a1), .val (.int a2), .val (.int b0), .val (.int b1), .val (.int b2), .val (.ref r87), .val (.ref r88), .val (.int (own_dom2 a0 a1 b0 b1)), .val (.int (1 : Int32)), .val (.int (1 : Int32))]) rfl k) ?_
            show own_Go p.tables e below K (T89.setTop (mkF m 187 #[.val (.int q1), .val (.int q2), .val (.int q3), .val (.int (2 : Int32)), .val (.int a0), .val (.int a1), .val (.int a2), .val (.int b0), .val (.int b1), .val (.int b2), .val (.ref r87), .val (.ref r88), .val (.int (own_dom2 a0 a1 b0 b1)), .val (.int (1 : Int32)), .val (.int (1 : Int32))] []))
            refine own_by (fun t k => XS.iload X89.here hx rfl (hb hby at_187) rfl k) ?_
            show own_Go p.tables e below K (T89.setTop (mkF m 189 #[.val (.int q1), .val (.int q2), .val (.int q3), .val (.int (2 : Int32)), .val (.int a0), .val (.int a1), .val (.int a2), .val (.int b0), .val (.int b1), .val (.int b2), .val (.ref r87), .val (.ref r88), .val (.int (own_dom2 a0 a1 b0 b1)), .val (.int (1 : Int32)), .val (.int (1 : Int32))] [(.int (own_dom2 a0 a1 b0 b1))]))
            refine own_by (fun t k => XS.iload X89.here hx rfl (hb hby at_189) rfl k) ?_
            show own_Go p.tables e below K (T89.setTop (mkF m 191 #[.val (.int q1), .val (.int q2), .val (.int q3), .val (.int (2 : Int32)), .val (.int a0), .val (.int a1), .val (.int a2), .val (.int b0), .val (.int b1), .val (.int b2), .val (.ref r87), .val (.ref r88), .val (.int (own_dom2 a0 a1 b0 b1)), .val (.int (1 : Int32)), .val (.int (1 : Int32))] [(.int (1 : Int32)), (.int (own_dom2 a0 a1 b0 b1))]))
            have hc191 : ¬ ((1 : Int32) = (0 : Int32)) := by decide
            refine own_by (fun t k => XS.ifNo X89.here hx rfl (hb hby at_191) rfl ((if0 _ _).trans (feq hc191).1) k) ?_
            show own_Go p.tables e below K (T89.setTop (mkF m 194 #[.val (.int q1), .val (.int q2), .val (.int q3), .val (.int (2 : Int32)), .val (.int a0), .val (.int a1), .val (.int a2), .val (.int b0), .val (.int b1), .val (.int b2), .val (.ref r87), .val (.ref r88), .val (.int (own_dom2 a0 a1 b0 b1)), .val (.int (1 : Int32)), .val (.int (1 : Int32))] [(.int (own_dom2 a0 a1 b0 b1))]))
            refine own_by (fun t k => XS.iload X89.here hx rfl (hb hby at_194) rfl k) ?_
            show own_Go p.tables e below K (T89.setTop (mkF m 196 #[.val (.int q1), .val (.int q2), .val (.int q3), .val (.int (2 : Int32)), .val (.int a0), .val (.int a1), .val (.int a2), .val (.int b0), .val (.int b1), .val (.int b2), .val (.ref r87), .val (.ref r88), .val (.int (own_dom2 a0 a1 b0 b1)), .val (.int (1 : Int32)), .val (.int (1 : Int32))] [(.int (1 : Int32)), (.int (own_dom2 a0 a1 b0 b1))]))
            have hc196 : ¬ ((1 : Int32) = (0 : Int32)) := by decide
            refine own_by (fun t k => XS.ifNo X89.here hx rfl (hb hby at_196) rfl ((if0 _ _).trans (feq hc196).1) k) ?_
            show own_Go p.tables e below K (T89.setTop (mkF m 199 #[.val (.int q1), .val (.int q2), .val (.int q3), .val (.int (2 : Int32)), .val (.int a0), .val (.int a1), .val (.int a2), .val (.int b0), .val (.int b1), .val (.int b2), .val (.ref r87), .val (.ref r88), .val (.int (own_dom2 a0 a1 b0 b1)), .val (.int (1 : Int32)), .val (.int (1 : Int32))] [(.int (own_dom2 a0 a1 b0 b1))]))
            refine own_by (fun t k => XS.iconst X89.here hx rfl (hb hby at_199) k) ?_
            show own_Go p.tables e below K (T89.setTop (mkF m 200 #[.val (.int q1), .val (.int q2), .val (.int q3), .val (.int (2 : Int32)), .val (.int a0), .val (.int a1), .val (.int a2), .val (.int b0), .val (.int b1), .val (.int b2), .val (.ref r87), .val (.ref r88), .val (.int (own_dom2 a0 a1 b0 b1)), .val (.int (1 : Int32)), .val (.int (1 : Int32))] [(.int (1 : Int32)), (.int (own_dom2 a0 a1 b0 b1))]))
            refine own_by (fun t k => XS.goto X89.here hx rfl (pc0 := 200) (pc' := 204) rfl (hb hby at_200) (by decide) (by decide) k) ?_
            show own_Go p.tables e below K (T89.setTop (mkF m 204 #[.val (.int q1), .val (.int q2), .val (.int q3), .val (.int (2 : Int32)), .val (.int a0), .val (.int a1), .val (.int a2), .val (.int b0), .val (.int b1), .val (.int b2), .val (.ref r87), .val (.ref r88), .val (.int (own_dom2 a0 a1 b0 b1)), .val (.int (1 : Int32)), .val (.int (1 : Int32))] [(.int (1 : Int32)), (.int (own_dom2 a0 a1 b0 b1))]))
            have hc204 : (own_dom2 a0 a1 b0 b1) = (1 : Int32) := by simp_all [own_dom2]
            refine own_by (fun t k => XS.icmpNo X89.here hx rfl (hb hby at_204) rfl (teq hc204).2 k) ?_
            show own_Go p.tables e below K (T89.setTop (mkF m 207 #[.val (.int q1), .val (.int q2), .val (.int q3), .val (.int (2 : Int32)), .val (.int a0), .val (.int a1), .val (.int a2), .val (.int b0), .val (.int b1), .val (.int b2), .val (.ref r87), .val (.ref r88), .val (.int (own_dom2 a0 a1 b0 b1)), .val (.int (1 : Int32)), .val (.int (1 : Int32))] []))
            refine own_by (fun t k => XS.iconst X89.here hx rfl (hb hby at_207) k) ?_
            show own_Go p.tables e below K (T89.setTop (mkF m 208 #[.val (.int q1), .val (.int q2), .val (.int q3), .val (.int (2 : Int32)), .val (.int a0), .val (.int a1), .val (.int a2), .val (.int b0), .val (.int b1), .val (.int b2), .val (.ref r87), .val (.ref r88), .val (.int (own_dom2 a0 a1 b0 b1)), .val (.int (1 : Int32)), .val (.int (1 : Int32))] [(.int (1 : Int32))]))
            refine own_by (fun t k => XS.goto X89.here hx rfl (pc0 := 208) (pc' := 212) rfl (hb hby at_208) (by decide) (by decide) k) ?_
            show own_Go p.tables e below K (T89.setTop (mkF m 212 #[.val (.int q1), .val (.int q2), .val (.int q3), .val (.int (2 : Int32)), .val (.int a0), .val (.int a1), .val (.int a2), .val (.int b0), .val (.int b1), .val (.int b2), .val (.ref r87), .val (.ref r88), .val (.int (own_dom2 a0 a1 b0 b1)), .val (.int (1 : Int32)), .val (.int (1 : Int32))] [(.int (1 : Int32))]))
            exact own_retZ X89 hx (t := .boolean) hret (by simp) (hb hby at_212) (hK (some (.int (1 : Int32))) X89 (fun h => by rw [hret] at h; cases h) (⟨rfl, N89⟩) (by decide) (by decide))
          · refine own_by (fun t k => XS.icmpNo X89.here hx rfl (hb hby at_153) rfl (flt hc153).1 k) ?_
            show own_Go p.tables e below K (T89.setTop (mkF m 156 #[.val (.int q1), .val (.int q2), .val (.int q3), .val (.int (2 : Int32)), .val (.int a0), .val (.int a1), .val (.int a2), .val (.int b0), .val (.int b1), .val (.int b2), .val (.ref r87), .val (.ref r88), .val (.int (own_dom2 a0 a1 b0 b1)), .val (.int (1 : Int32)), .unset] []))
            refine own_by (fun t k => XS.iloadN X89.here hx rfl (hb hby at_156) rfl k) ?_
            show own_Go p.tables e below K (T89.setTop (mkF m 157 #[.val (.int q1), .val (.int q2), .val (.int q3), .val (.int (2 : Int32)), .val (.int a0), .val (.int a1), .val (.int a2), .val (.int b0), .val (.int b1), .val (.int b2), .val (.ref r87), .val (.ref r88), .val (.int (own_dom2 a0 a1 b0 b1)), .val (.int (1 : Int32)), .unset] [(.int (2 : Int32))]))
            refine own_by (fun t k => XS.iconst X89.here hx rfl (hb hby at_157) k) ?_
            show own_Go p.tables e below K (T89.setTop (mkF m 158 #[.val (.int q1), .val (.int q2), .val (.int q3), .val (.int (2 : Int32)), .val (.int a0), .val (.int a1), .val (.int a2), .val (.int b0), .val (.int b1), .val (.int b2), .val (.ref r87), .val (.ref r88), .val (.int (own_dom2 a0 a1 b0 b1)), .val (.int (1 : Int32)), .unset] [(.int (2 : Int32)), (.int (2 : Int32))]))
            have hc158 : ¬ ((2 : Int32) < (2 : Int32)) := by decide
            refine own_by (fun t k => XS.icmpNo X89.here hx rfl (hb hby at_158) rfl (flt hc158).1 k) ?_
            show own_Go p.tables e below K (T89.setTop (mkF m 161 #[.val (.int q1), .val (.int q2), .val (.int q3), .val (.int (2 : Int32)), .val (.int a0), .val (.int a1), .val (.int a2), .val (.int b0), .val (.int b1), .val (.int b2), .val (.ref r87), .val (.ref r88), .val (.int (own_dom2 a0 a1 b0 b1)), .val (.int (1 : Int32)), .unset] []))
            refine own_by (fun t k => XS.iload X89.here hx rfl (hb hby at_161) rfl k) ?_
            show own_Go p.tables e below K (T89.setTop (mkF m 163 #[.val (.int q1), .val (.int q2), .val (.int q3), .val (.int (2 : Int32)), .val (.int a0), .val (.int a1), .val (.int a2), .val (.int b0), .val (.int b1), .val (.int b2), .val (.ref r87), .val (.ref r88), .val (.int (own_dom2 a0 a1 b0 b1)), .val (.int (1 : Int32)), .unset] [(.int a1)]))
            refine own_by (fun t k => XS.iload X89.here hx rfl (hb hby at_163) rfl k) ?_
            show own_Go p.tables e below K (T89.setTop (mkF m 165 #[.val (.int q1), .val (.int q2), .val (.int q3), .val (.int (2 : Int32)), .val (.int a0), .val (.int a1), .val (.int a2), .val (.int b0), .val (.int b1), .val (.int b2), .val (.ref r87), .val (.ref r88), .val (.int (own_dom2 a0 a1 b0 b1)), .val (.int (1 : Int32)), .unset] [(.int b1), (.int a1)]))
            by_cases hc165 : a1 < b1
            · refine own_by (fun t k => XS.icmpYes X89.here hx rfl (pc0 := 165) (pc' := 180) rfl (hb hby at_165) rfl (tlt hc165).1 (by decide) (by decide) k) ?_
              show own_Go p.tables e below K (T89.setTop (mkF m 180 #[.val (.int q1), .val (.int q2), .val (.int q3), .val (.int (2 : Int32)), .val (.int a0), .val (.int a1), .val (.int a2), .val (.int b0), .val (.int b1), .val (.int b2), .val (.ref r87), .val (.ref r88), .val (.int (own_dom2 a0 a1 b0 b1)), .val (.int (1 : Int32)), .unset] []))
              refine own_by (fun t k => XS.iconst X89.here hx rfl (hb hby at_180) k) ?_
              show own_Go p.tables e below K (T89.setTop (mkF m 181 #[.val (.int q1), .val (.int q2), .val (.int q3), .val (.int (2 : Int32)), .val (.int a0), .val (.int a1), .val (.int a2), .val (.int b0), .val (.int b1), .val (.int b2), .val (.ref r87), .val (.ref r88), .val (.int (own_dom2 a0 a1 b0 b1)), .val (.int (1 : Int32)), .unset] [(.int (1 : Int32))]))
              refine own_by (fun t k => XS.goto X89.here hx rfl (pc0 := 181) (pc' := 185) rfl (hb hby at_181) (by decide) (by decide) k) ?_
              show own_Go p.tables e below K (T89.setTop (mkF m 185 #[.val (.int q1), .val (.int q2), .val (.int q3), .val (.int (2 : Int32)), .val (.int a0), .val (.int a1), .val (.int a2), .val (.int b0), .val (.int b1), .val (.int b2), .val (.ref r87), .val (.ref r88), .val (.int (own_dom2 a0 a1 b0 b1)), .val (.int (1 : Int32)), .unset] [(.int (1 : Int32))]))
              refine own_by (fun t k => XS.istore X89.here hx rfl (hb hby at_185) rfl (l' := #[.val (.int q1), .val (.int q2), .val (.int q3), .val (.int (2 : Int32)), .val (.int a0), .val (.int a1), .val (.int a2), .val (.int b0), .val (.int b1), .val (.int b2), .val (.ref r87), .val (.ref r88), .val (.int (own_dom2 a0 a1 b0 b1)), .val (.int (1 : Int32)), .val (.int (1 : Int32))]) rfl k) ?_
              show own_Go p.tables e below K (T89.setTop (mkF m 187 #[.val (.int q1), .val (.int q2), .val (.int q3), .val (.int (2 : Int32)), .val (.int a0), .val (.int a1), .val (.int a2), .val (.int b0), .val (.int b1), .val (.int b2), .val (.ref r87), .val (.ref r88), .val (.int (own_dom2 a0 a1 b0 b1)), .val (.int (1 : Int32)), .val (.int (1 : Int32))] []))
              refine own_by (fun t k => XS.iload X89.here hx rfl (hb hby at_187) rfl k) ?_
              show own_Go p.tables e below K (T89.setTop (mkF m 189 #[.val (.int q1), .val (.int q2), .val (.int q3), .val (.int (2 : Int32)), .val (.int a0), .val (.int a1), .val (.int a2), .val (.int b0), .val (.int b1), .val (.int b2), .val (.ref r87), .val (.ref r88), .val (.int (own_dom2 a0 a1 b0 b1)), .val (.int (1 : Int32)), .val (.int (1 : Int32))] [(.int (own_dom2 a0 a1 b0 b1))]))
              refine own_by (fun t k => XS.iload X89.here hx rfl (hb hby at_189) rfl k) ?_
              show own_Go p.tables e below K (T89.setTop (mkF m 191 #[.val (.int q1), .val (.int q2), .val (.int q3), .val (.int (2 : Int32)), .val (.int a0), .val (.int a1), .val (.int a2), .val (.int b0), .val (.int b1), .val (.int b2), .val (.ref r87), .val (.ref r88), .val (.int (own_dom2 a0 a1 b0 b1)), .val (.int (1 : Int32)), .val (.int (1 : Int32))] [(.int (1 : Int32)), (.int (own_dom2 a0 a1 b0 b1))]))
              have hc191 : ¬ ((1 : Int32) = (0 : Int32)) := by decide
              refine own_by (fun t k => XS.ifNo X89.here hx rfl (hb hby at_191) rfl ((if0 _ _).trans (feq hc191).1) k) ?_
              show own_Go p.tables e below K (T89.setTop (mkF m 194 #[.val (.int q1), .val (.int q2), .val (.int q3), .val (.int (2 : Int32)), .val (.int a0), .val (.int a1), .val (.int a2), .val (.int b0), .val (.int b1), .val (.int b2), .val (.ref r87), .val (.ref r88), .val (.int (own_dom2 a0 a1 b0 b1)), .val (.int (1 : Int32)), .val (.int (1 : Int32))] [(.int (own_dom2 a0 a1 b0 b1))]))
              refine own_by (fun t k => XS.iload X89.here hx rfl (hb hby at_194) rfl k) ?_
              show own_Go p.tables e below K (T89.setTop (mkF m 196 #[.val (.int q1), .val (.int q2), .val (.int q3), .val (.int (2 : Int32)), .val (.int a0), .val (.int a1), .val (.int a2), .val (.int b0), .val (.int b1), .val (.int b2), .val (.ref r87), .val (.ref r88), .val (.int (own_dom2 a0 a1 b0 b1)), .val (.int (1 : Int32)), .val (.int (1 : Int32))] [(.int (1 : Int32)), (.int (own_dom2 a0 a1 b0 b1))]))
              have hc196 : ¬ ((1 : Int32) = (0 : Int32)) := by decide
              refine own_by (fun t k => XS.ifNo X89.here hx rfl (hb hby at_196) rfl ((if0 _ _).trans (feq hc196).1) k) ?_
              show own_Go p.tables e below K (T89.setTop (mkF m 199 #[.val (.int q1), .val (.int q2), .val (.int q3), .val (.int (2 : Int32)), .val (.int a0), .val (.int a1), .val (.int a2), .val (.int b0), .val (.int b1), .val (.int b2), .val (.ref r87), .val (.ref r88), .val (.int (own_dom2 a0 a1 b0 b1)), .val (.int (1 : Int32)), .val (.int (1 : Int32))] [(.int (own_dom2 a0 a1 b0 b1))]))
              refine own_by (fun t k => XS.iconst X89.here hx rfl (hb hby at_199) k) ?_
              show own_Go p.tables e below K (T89.setTop (mkF m 200 #[.val (.int q1), .val (.int q2), .val (.int q3), .val (.int (2 : Int32)), .val (.int a0), .val (.int a1), .val (.int a2), .val (.int b0), .val (.int b1), .val (.int b2), .val (.ref r87), .val (.ref r88), .val (.int (own_dom2 a0 a1 b0 b1)), .val (.int (1 : Int32)), .val (.int (1 : Int32))] [(.int (1 : Int32)), (.int (own_dom2 a0 a1 b0 b1))]))
              refine own_by (fun t k => XS.goto X89.here hx rfl (pc0 := 200) (pc' := 204) rfl (hb hby at_200) (by decide) (by decide) k) ?_
              show own_Go p.tables e below K (T89.setTop (mkF m 204 #[.val (.int q1), .val (.int q2), .val (.int q3), .val (.int (2 : Int32)), .val (.int a0), .val (.int a1), .val (.int a2), .val (.int b0), .val (.int b1), .val (.int b2), .val (.ref r87), .val (.ref r88), .val (.int (own_dom2 a0 a1 b0 b1)), .val (.int (1 : Int32)), .val (.int (1 : Int32))] [(.int (1 : Int32)), (.int (own_dom2 a0 a1 b0 b1))]))
              have hc204 : (own_dom2 a0 a1 b0 b1) = (1 : Int32) := by simp_all [own_dom2]
              refine own_by (fun t k => XS.icmpNo X89.here hx rfl (hb hby at_204) rfl (teq hc204).2 k) ?_
              show own_Go p.tables e below K (T89.setTop (mkF m 207 #[.val (.int q1), .val (.int q2), .val (.int q3), .val (.int (2 : Int32)), .val (.int a0), .val (.int a1), .val (.int a2), .val (.int b0), .val (.int b1), .val (.int b2), .val (.ref r87), .val (.ref r88), .val (.int (own_dom2 a0 a1 b0 b1)), .val (.int (1 : Int32)), .val (.int (1 : Int32))] []))
              refine own_by (fun t k => XS.iconst X89.here hx rfl (hb hby at_207) k) ?_
              show own_Go p.tables e below K (T89.setTop (mkF m 208 #[.val (.int q1), .val (.int q2), .val (.int q3), .val (.int (2 : Int32)), .val (.int a0), .val (.int a1), .val (.int a2), .val (.int b0), .val (.int b1), .val (.int b2), .val (.ref r87), .val (.ref r88), .val (.int (own_dom2 a0 a1 b0 b1)), .val (.int (1 : Int32)), .val (.int (1 : Int32))] [(.int (1 : Int32))]))
              refine own_by (fun t k => XS.goto X89.here hx rfl (pc0 := 208) (pc' := 212) rfl (hb hby at_208) (by decide) (by decide) k) ?_
              show own_Go p.tables e below K (T89.setTop (mkF m 212 #[.val (.int q1), .val (.int q2), .val (.int q3), .val (.int (2 : Int32)), .val (.int a0), .val (.int a1), .val (.int a2), .val (.int b0), .val (.int b1), .val (.int b2), .val (.ref r87), .val (.ref r88), .val (.int (own_dom2 a0 a1 b0 b1)), .val (.int (1 : Int32)), .val (.int (1 : Int32))] [(.int (1 : Int32))]))
              exact own_retZ X89 hx (t := .boolean) hret (by simp) (hb hby at_212) (hK (some (.int (1 : Int32))) X89 (fun h => by rw [hret] at h; cases h) (⟨rfl, N89⟩) (by decide) (by decide))
            · refine own_by (fun t k => XS.icmpNo X89.here hx rfl (hb hby at_165) rfl (flt hc165).1 k) ?_
              show own_Go p.tables e below K (T89.setTop (mkF m 168 #[.val (.int q1), .val (.int q2), .val (.int q3), .val (.int (2 : Int32)), .val (.int a0), .val (.int a1), .val (.int a2), .val (.int b0), .val (.int b1), .val (.int b2), .val (.ref r87), .val (.ref r88), .val (.int (own_dom2 a0 a1 b0 b1)), .val (.int (1 : Int32)), .unset] []))
              refine own_by (fun t k => XS.iloadN X89.here hx rfl (hb hby at_168) rfl k) ?_
              show own_Go p.tables e below K (T89.setTop (mkF m 169 #[.val (.int q1), .val (.int q2), .val (.int q3), .val (.int (2 : Int32)), .val (.int a0), .val (.int a1), .val (.int a2), .val (.int b0), .val (.int b1), .val (.int b2), .val (.ref r87), .val (.ref r88), .val (.int (own_dom2 a0 a1 b0 b1)), .val (.int (1 : Int32)), .unset] [(.int (2 : Int32))]))
              refine own_by (fun t k => XS.iconst X89.here hx rfl (hb hby at_169) k) ?_
              show own_Go p.tables e below K (T89.setTop (mkF m 170 #[.val (.int q1), .val (.int q2), .val (.int q3), .val (.int (2 : Int32)), .val (.int a0), .val (.int a1), .val (.int a2), .val (.int b0), .val (.int b1), .val (.int b2), .val (.ref r87), .val (.ref r88), .val (.int (own_dom2 a0 a1 b0 b1)), .val (.int (1 : Int32)), .unset] [(.int (3 : Int32)), (.int (2 : Int32))]))
              have hc170 : (2 : Int32) < (3 : Int32) := by decide
              refine own_by (fun t k => XS.icmpYes X89.here hx rfl (pc0 := 170) (pc' := 184) rfl (hb hby at_170) rfl (tlt hc170).1 (by decide) (by decide) k) ?_
              show own_Go p.tables e below K (T89.setTop (mkF m 184 #[.val (.int q1), .val (.int q2), .val (.int q3), .val (.int (2 : Int32)), .val (.int a0), .val (.int a1), .val (.int a2), .val (.int b0), .val (.int b1), .val (.int b2), .val (.ref r87), .val (.ref r88), .val (.int (own_dom2 a0 a1 b0 b1)), .val (.int (1 : Int32)), .unset] []))
              refine own_by (fun t k => XS.iconst X89.here hx rfl (hb hby at_184) k) ?_
              show own_Go p.tables e below K (T89.setTop (mkF m 185 #[.val (.int q1), .val (.int q2), .val (.int q3), .val (.int (2 : Int32)), .val (.int a0), .val (.int a1), .val (.int a2), .val (.int b0), .val (.int b1), .val (.int b2), .val (.ref r87), .val (.ref r88), .val (.int (own_dom2 a0 a1 b0 b1)), .val (.int (1 : Int32)), .unset] [(.int (0 : Int32))]))
              refine own_by (fun t k => XS.istore X89.here hx rfl (hb hby at_185) rfl (l' := #[.val (.int q1), .val (.int q2), .val (.int q3), .val (.int (2 : Int32)), .val (.int a0), .val (.int a1), .val (.int a2), .val (.int b0), .val (.int b1), .val (.int b2), .val (.ref r87), .val (.ref r88), .val (.int (own_dom2 a0 a1 b0 b1)), .val (.int (1 : Int32)), .val (.int (0 : Int32))]) rfl k) ?_
              show own_Go p.tables e below K (T89.setTop (mkF m 187 #[.val (.int q1), .val (.int q2), .val (.int q3), .val (.int (2 : Int32)), .val (.int a0), .val (.int a1), .val (.int a2), .val (.int b0), .val (.int b1), .val (.int b2), .val (.ref r87), .val (.ref r88), .val (.int (own_dom2 a0 a1 b0 b1)), .val (.int (1 : Int32)), .val (.int (0 : Int32))] []))
              refine own_by (fun t k => XS.iload X89.here hx rfl (hb hby at_187) rfl k) ?_
              show own_Go p.tables e below K (T89.setTop (mkF m 189 #[.val (.int q1), .val (.int q2), .val (.int q3), .val (.int (2 : Int32)), .val (.int a0), .val (.int a1), .val (.int a2), .val (.int b0), .val (.int b1), .val (.int b2), .val (.ref r87), .val (.ref r88), .val (.int (own_dom2 a0 a1 b0 b1)), .val (.int (1 : Int32)), .val (.int (0 : Int32))] [(.int (own_dom2 a0 a1 b0 b1))]))
              refine own_by (fun t k => XS.iload X89.here hx rfl (hb hby at_189) rfl k) ?_
              show own_Go p.tables e below K (T89.setTop (mkF m 191 #[.val (.int q1), .val (.int q2), .val (.int q3), .val (.int (2 : Int32)), .val (.int a0), .val (.int a1), .val (.int a2), .val (.int b0), .val (.int b1), .val (.int b2), .val (.ref r87), .val (.ref r88), .val (.int (own_dom2 a0 a1 b0 b1)), .val (.int (1 : Int32)), .val (.int (0 : Int32))] [(.int (1 : Int32)), (.int (own_dom2 a0 a1 b0 b1))]))
              have hc191 : ¬ ((1 : Int32) = (0 : Int32)) := by decide
              refine own_by (fun t k => XS.ifNo X89.here hx rfl (hb hby at_191) rfl ((if0 _ _).trans (feq hc191).1) k) ?_
              show own_Go p.tables e below K (T89.setTop (mkF m 194 #[.val (.int q1), .val (.int q2), .val (.int q3), .val (.int (2 : Int32)), .val (.int a0), .val (.int a1), .val (.int a2), .val (.int b0), .val (.int b1), .val (.int b2), .val (.ref r87), .val (.ref r88), .val (.int (own_dom2 a0 a1 b0 b1)), .val (.int (1 : Int32)), .val (.int (0 : Int32))] [(.int (own_dom2 a0 a1 b0 b1))]))
              refine own_by (fun t k => XS.iload X89.here hx rfl (hb hby at_194) rfl k) ?_
              show own_Go p.tables e below K (T89.setTop (mkF m 196 #[.val (.int q1), .val (.int q2), .val (.int q3), .val (.int (2 : Int32)), .val (.int a0), .val (.int a1), .val (.int a2), .val (.int b0), .val (.int b1), .val (.int b2), .val (.ref r87), .val (.ref r88), .val (.int (own_dom2 a0 a1 b0 b1)), .val (.int (1 : Int32)), .val (.int (0 : Int32))] [(.int (0 : Int32)), (.int (own_dom2 a0 a1 b0 b1))]))
              have hc196 : (0 : Int32) = (0 : Int32) := by decide
              refine own_by (fun t k => XS.ifYes X89.here hx rfl (pc0 := 196) (pc' := 203) rfl (hb hby at_196) rfl ((if0 _ _).trans (teq hc196).1) (by decide) (by decide) k) ?_
              show own_Go p.tables e below K (T89.setTop (mkF m 203 #[.val (.int q1), .val (.int q2), .val (.int q3), .val (.int (2 : Int32)), .val (.int a0), .val (.int a1), .val (.int a2), .val (.int b0), .val (.int b1), .val (.int b2), .val (.ref r87), .val (.ref r88), .val (.int (own_dom2 a0 a1 b0 b1)), .val (.int (1 : Int32)), .val (.int (0 : Int32))] [(.int (own_dom2 a0 a1 b0 b1))]))
              refine own_by (fun t k => XS.iconst X89.here hx rfl (hb hby at_203) k) ?_
              show own_Go p.tables e below K (T89.setTop (mkF m 204 #[.val (.int q1), .val (.int q2), .val (.int q3), .val (.int (2 : Int32)), .val (.int a0), .val (.int a1), .val (.int a2), .val (.int b0), .val (.int b1), .val (.int b2), .val (.ref r87), .val (.ref r88), .val (.int (own_dom2 a0 a1 b0 b1)), .val (.int (1 : Int32)), .val (.int (0 : Int32))] [(.int (0 : Int32)), (.int (own_dom2 a0 a1 b0 b1))]))
              have hc204 : (own_dom2 a0 a1 b0 b1) = (0 : Int32) := by simp_all [own_dom2]
              refine own_by (fun t k => XS.icmpNo X89.here hx rfl (hb hby at_204) rfl (teq hc204).2 k) ?_
              show own_Go p.tables e below K (T89.setTop (mkF m 207 #[.val (.int q1), .val (.int q2), .val (.int q3), .val (.int (2 : Int32)), .val (.int a0), .val (.int a1), .val (.int a2), .val (.int b0), .val (.int b1), .val (.int b2), .val (.ref r87), .val (.ref r88), .val (.int (own_dom2 a0 a1 b0 b1)), .val (.int (1 : Int32)), .val (.int (0 : Int32))] []))
              refine own_by (fun t k => XS.iconst X89.here hx rfl (hb hby at_207) k) ?_
              show own_Go p.tables e below K (T89.setTop (mkF m 208 #[.val (.int q1), .val (.int q2), .val (.int q3), .val (.int (2 : Int32)), .val (.int a0), .val (.int a1), .val (.int a2), .val (.int b0), .val (.int b1), .val (.int b2), .val (.ref r87), .val (.ref r88), .val (.int (own_dom2 a0 a1 b0 b1)), .val (.int (1 : Int32)), .val (.int (0 : Int32))] [(.int (1 : Int32))]))
              refine own_by (fun t k => XS.goto X89.here hx rfl (pc0 := 208) (pc' := 212) rfl (hb hby at_208) (by decide) (by decide) k) ?_
              show own_Go p.tables e below K (T89.setTop (mkF m 212 #[.val (.int q1), .val (.int q2), .val (.int q3), .val (.int (2 : Int32)), .val (.int a0), .val (.int a1), .val (.int a2), .val (.int b0), .val (.int b1), .val (.int b2), .val (.ref r87), .val (.ref r88), .val (.int (own_dom2 a0 a1 b0 b1)), .val (.int (1 : Int32)), .val (.int (0 : Int32))] [(.int (1 : Int32))]))
              exact own_retZ X89 hx (t := .boolean) hret (by simp) (hb hby at_212) (hK (some (.int (1 : Int32))) X89 (fun h => by rw [hret] at h; cases h) (⟨rfl, N89⟩) (by decide) (by decide))
    · show own_Go p.tables e below K (s₁.setTop (mkF m 68 #[.val (.int q1), .val (.int q2), .val (.int q3), .val (.int (3 : Int32)), .val (.int a0), .val (.int a1), .val (.int a2), .val (.int b0), .val (.int b1), .val (.int b2), .unset, .unset, .unset, .unset, .unset] []))
      refine own_by (fun t k => XS.iloadN X0.here hx rfl (hb hby at_68) rfl k) ?_
      show own_Go p.tables e below K (s₁.setTop (mkF m 69 #[.val (.int q1), .val (.int q2), .val (.int q3), .val (.int (3 : Int32)), .val (.int a0), .val (.int a1), .val (.int a2), .val (.int b0), .val (.int b1), .val (.int b2), .unset, .unset, .unset, .unset, .unset] [(.int (3 : Int32))]))
      refine own_by (fun t k => XS.iload X0.here hx rfl (hb hby at_69) rfl k) ?_
      show own_Go p.tables e below K (s₁.setTop (mkF m 71 #[.val (.int q1), .val (.int q2), .val (.int q3), .val (.int (3 : Int32)), .val (.int a0), .val (.int a1), .val (.int a2), .val (.int b0), .val (.int b1), .val (.int b2), .unset, .unset, .unset, .unset, .unset] [(.int a0), (.int (3 : Int32))]))
      refine own_by (fun t k => XS.iload X0.here hx rfl (hb hby at_71) rfl k) ?_
      show own_Go p.tables e below K (s₁.setTop (mkF m 73 #[.val (.int q1), .val (.int q2), .val (.int q3), .val (.int (3 : Int32)), .val (.int a0), .val (.int a1), .val (.int a2), .val (.int b0), .val (.int b1), .val (.int b2), .unset, .unset, .unset, .unset, .unset] [(.int a1), (.int a0), (.int (3 : Int32))]))
      refine own_by (fun t k => XS.iload X0.here hx rfl (hb hby at_73) rfl k) ?_
      show own_Go p.tables e below K (s₁.setTop (mkF m 75 #[.val (.int q1), .val (.int q2), .val (.int q3), .val (.int (3 : Int32)), .val (.int a0), .val (.int a1), .val (.int a2), .val (.int b0), .val (.int b1), .val (.int b2), .unset, .unset, .unset, .unset, .unset] [(.int a2), (.int a1), (.int a0), (.int (3 : Int32))]))
      obtain ⟨_, _, ⟨T90, L90, k90, n90⟩, -, X90, ⟨Lc90, hQ90, l90, y90, z90⟩, st90⟩ := Jvm.LawKit.callS X0 hx (y := (⟨"com/example/manyfront/manyfront/sorting/NondominatedSortingDominatesPinLaw", "make", "(IIII)[D"⟩ : MethodName)) hown (mvT hZ (hw _ (List.mem_of_getElem? (i := 0) rfl))) (mvT hZ (hw _ (List.mem_of_getElem? (i := 1) rfl))) (mvT hZ (hw _ (List.mem_of_getElem? (i := 2) rfl))) (mvT hZ (hw _ (List.mem_of_getElem? (i := 3) rfl))) (by decide) (backOf (W := 0) (own_rmmk3 l Z aw hw [] a0 a1 a2 h0 n0 Z0) hZ (hw _ (List.mem_of_getElem? (i := 3) rfl)) (hw _ (List.mem_of_getElem? (i := 2) rfl)) (by decide) (by decide)) (g := (mkF m 75 #[.val (.int q1), .val (.int q2), .val (.int q3), .val (.int (3 : Int32)), .val (.int a0), .val (.int a1), .val (.int a2), .val (.int b0), .val (.int b1), .val (.int b2), .unset, .unset, .unset, .unset, .unset] [(.int a2), (.int a1), (.int a0), (.int (3 : Int32))])) rfl (by rw [hml]; rfl) (argsL := [(.int (3 : Int32)), (.int a0), (.int a1), (.int a2)]) (rest := []) (lenOf own_pd0 rfl) rfl (by show 2 * 0 + _ ≤ _; exact Nat.le_of_eq rfl) (hb hby at_75) (fun _ _ => ⟨rfl, e0, (by decide : 0 + 1 ≤ _), (by decide : 0 + 3 ≤ _)⟩)
      dsimp only [Pt.U, Pt.locs, Pt.cells, Pt.slots] at X90 l90 y90 z90 st90 hQ90
      subst l90 y90 z90
      obtain ⟨r90, k90c, rfl, N90q, Kp90, Vp90⟩ := hQ90
      have N90 := Fr.app N0 N90q
      refine own_by st90 ?_
      have VA := Vp90
      have Z90 := Nat.le_trans Z0 Kp90.1
      show own_Go p.tables e below K (T90.setTop (mkF m 78 #[.val (.int q1), .val (.int q2), .val (.int q3), .val (.int (3 : Int32)), .val (.int a0), .val (.int a1), .val (.int a2), .val (.int b0), .val (.int b1), .val (.int b2), .unset, .unset, .unset, .unset, .unset] [(.ref r90)]))
      refine own_by (fun t k => XS.astore X90.here hx rfl (hb hby at_78) rfl rfl (l' := #[.val (.int q1), .val (.int q2), .val (.int q3), .val (.int (3 : Int32)), .val (.int a0), .val (.int a1), .val (.int a2), .val (.int b0), .val (.int b1), .val (.int b2), .val (.ref r90), .unset, .unset, .unset, .unset]) rfl k) ?_
      show own_Go p.tables e below K (T90.setTop (mkF m 80 #[.val (.int q1), .val (.int q2), .val (.int q3), .val (.int (3 : Int32)), .val (.int a0), .val (.int a1), .val (.int a2), .val (.int b0), .val (.int b1), .val (.int b2), .val (.ref r90), .unset, .unset, .unset, .unset] []))
      refine own_by (fun t k => XS.iloadN X90.here hx rfl (hb hby at_80) rfl k) ?_
      show own_Go p.tables e below K (T90.setTop (mkF m 81 #[.val (.int q1), .val (.int q2), .val (.int q3), .val (.int (3 : Int32)), .val (.int a0), .val (.int a1), .val (.int a2), .val (.int b0), .val (.int b1), .val (.int b2), .val (.ref r90), .unset, .unset, .unset, .unset] [(.int (3 : Int32))]))
      refine own_by (fun t k => XS.iload X90.here hx rfl (hb hby at_81) rfl k) ?_
      show own_Go p.tables e below K (T90.setTop (mkF m 83 #[.val (.int q1), .val (.int q2), .val (.int q3), .val (.int (3 : Int32)), .val (.int a0), .val (.int a1), .val (.int a2), .val (.int b0), .val (.int b1), .val (.int b2), .val (.ref r90), .unset, .unset, .unset, .unset] [(.int b0), (.int (3 : Int32))]))
      refine own_by (fun t k => XS.iload X90.here hx rfl (hb hby at_83) rfl k) ?_
      show own_Go p.tables e below K (T90.setTop (mkF m 85 #[.val (.int q1), .val (.int q2), .val (.int q3), .val (.int (3 : Int32)), .val (.int a0), .val (.int a1), .val (.int a2), .val (.int b0), .val (.int b1), .val (.int b2), .val (.ref r90), .unset, .unset, .unset, .unset] [(.int b1), (.int b0), (.int (3 : Int32))]))
      refine own_by (fun t k => XS.iload X90.here hx rfl (hb hby at_85) rfl k) ?_
      show own_Go p.tables e below K (T90.setTop (mkF m 87 #[.val (.int q1), .val (.int q2), .val (.int q3), .val (.int (3 : Int32)), .val (.int a0), .val (.int a1), .val (.int a2), .val (.int b0), .val (.int b1), .val (.int b2), .val (.ref r90), .unset, .unset, .unset, .unset] [(.int b2), (.int b1), (.int b0), (.int (3 : Int32))]))
      obtain ⟨_, _, ⟨T91, L91, k91, n91⟩, -, X91, ⟨Lc91, hQ91, l91, y91, z91⟩, st91⟩ := Jvm.LawKit.callS X90 hx (y := (⟨"com/example/manyfront/manyfront/sorting/NondominatedSortingDominatesPinLaw", "make", "(IIII)[D"⟩ : MethodName)) hown (mvT hZ (hw _ (List.mem_of_getElem? (i := 0) rfl))) (mvT hZ (hw _ (List.mem_of_getElem? (i := 1) rfl))) (mvT hZ (hw _ (List.mem_of_getElem? (i := 2) rfl))) (mvT hZ (hw _ (List.mem_of_getElem? (i := 3) rfl))) (by decide) (backOf (W := 0) (own_rmmk3 l Z aw hw [] b0 b1 b2 T90.heap n0 Z90) hZ (hw _ (List.mem_of_getElem? (i := 3) rfl)) (hw _ (List.mem_of_getElem? (i := 2) rfl)) (by decide) (by decide)) (g := (mkF m 87 #[.val (.int q1), .val (.int q2), .val (.int q3), .val (.int (3 : Int32)), .val (.int a0), .val (.int a1), .val (.int a2), .val (.int b0), .val (.int b1), .val (.int b2), .val (.ref r90), .unset, .unset, .unset, .unset] [(.int b2), (.int b1), (.int b0), (.int (3 : Int32))])) rfl (by rw [hml]; rfl) (argsL := [(.int (3 : Int32)), (.int b0), (.int b1), (.int b2)]) (rest := []) (lenOf own_pd0 rfl) rfl (by show 2 * 0 + _ ≤ _; exact Nat.le_of_eq rfl) (hb hby at_87) (fun _ _ => ⟨rfl, rfl, (by decide : 1 + 1 ≤ _), (by decide : 3 + 3 ≤ _)⟩)
      dsimp only [Pt.U, Pt.locs, Pt.cells, Pt.slots] at X91 l91 y91 z91 st91 hQ91
      subst l91 y91 z91
      obtain ⟨r91, k91c, rfl, N91q, Kp91, Vp91⟩ := hQ91
      have N91 := Fr.app N90 N91q
      refine own_by st91 ?_
      have VAk := VA.keep Kp91 nin0
      have VB := Vp91
      have Z91 := Nat.le_trans Z90 Kp91.1
      show own_Go p.tables e below K (T91.setTop (mkF m 90 #[.val (.int q1), .val (.int q2), .val (.int q3), .val (.int (3 : Int32)), .val (.int a0), .val (.int a1), .val (.int a2), .val (.int b0), .val (.int b1), .val (.int b2), .val (.ref r90), .unset, .unset, .unset, .unset] [(.ref r91)]))
      refine own_by (fun t k => XS.astore X91.here hx rfl (hb hby at_90) rfl rfl (l' := #[.val (.int q1), .val (.int q2), .val (.int q3), .val (.int (3 : Int32)), .val (.int a0), .val (.int a1), .val (.int a2), .val (.int b0), .val (.int b1), .val (.int b2), .val (.ref r90), .val (.ref r91), .unset, .unset, .unset]) rfl k) ?_
      show own_Go p.tables e below K (T91.setTop (mkF m 92 #[.val (.int q1), .val (.int q2), .val (.int q3), .val (.int (3 : Int32)), .val (.int a0), .val (.int a1), .val (.int a2), .val (.int b0), .val (.int b1), .val (.int b2), .val (.ref r90), .val (.ref r91), .unset, .unset, .unset] []))
      refine own_by (fun t k => XS.aload X91.here hx rfl (hb hby at_92) rfl rfl k) ?_
      show own_Go p.tables e below K (T91.setTop (mkF m 94 #[.val (.int q1), .val (.int q2), .val (.int q3), .val (.int (3 : Int32)), .val (.int a0), .val (.int a1), .val (.int a2), .val (.int b0), .val (.int b1), .val (.int b2), .val (.ref r90), .val (.ref r91), .unset, .unset, .unset] [(.ref r90)]))
      refine own_by (fun t k => XS.aload X91.here hx rfl (hb hby at_94) rfl rfl k) ?_
      show own_Go p.tables e below K (T91.setTop (mkF m 96 #[.val (.int q1), .val (.int q2), .val (.int q3), .val (.int (3 : Int32)), .val (.int a0), .val (.int a1), .val (.int a2), .val (.int b0), .val (.int b1), .val (.int b2), .val (.ref r90), .val (.ref r91), .unset, .unset, .unset] [(.ref r91), (.ref r90)]))
      obtain ⟨_, _, ⟨T92, L92, k92, n92⟩, -, X92, ⟨Lc92, hQ92, l92, y92, z92⟩, st92⟩ := Jvm.LawKit.callS X91 hx (y := (⟨"com/example/manyfront/manyfront/sorting/NondominatedSorting", "dominates", "([D[D)Z"⟩ : MethodName)) hown (mvT hZ (hw _ (List.mem_of_getElem? (i := 5) rfl))) (mvT hZ (hw _ (List.mem_of_getElem? (i := 6) rfl))) (mvT hZ (hw _ (List.mem_of_getElem? (i := 7) rfl))) (mvT hZ (hw _ (List.mem_of_getElem? (i := 8) rfl))) (by decide) (backOf (W := 0) (own_rmdm3 l Z aw hw [] r90 r91 _ _ a0 a1 a2 b0 b1 b2 T91.heap n0 Z91 VAk VB) hZ (hw _ (List.mem_of_getElem? (i := 8) rfl)) (hw _ (List.mem_of_getElem? (i := 7) rfl)) (by decide) (by decide)) (g := (mkF m 96 #[.val (.int q1), .val (.int q2), .val (.int q3), .val (.int (3 : Int32)), .val (.int a0), .val (.int a1), .val (.int a2), .val (.int b0), .val (.int b1), .val (.int b2), .val (.ref r90), .val (.ref r91), .unset, .unset, .unset] [(.ref r91), (.ref r90)])) rfl (by rw [hml]; rfl) (argsL := [(.ref r90), (.ref r91)]) (rest := []) (lenOf own_pd1 rfl) rfl (by show 2 * 0 + _ ≤ _; exact Nat.le_of_eq rfl) (hb hby at_96) (fun _ _ => ⟨rfl, rfl, (by decide : 2 + 0 ≤ _), (by decide : 6 + 0 ≤ _)⟩)
      dsimp only [Pt.U, Pt.locs, Pt.cells, Pt.slots] at X92 l92 y92 z92 st92 hQ92
      subst l92 y92 z92
      obtain ⟨rfl, N92q, e92⟩ := hQ92
      have N92 := Fr.app N91 N92q
      refine own_by st92 ?_
      show own_Go p.tables e below K (T92.setTop (mkF m 99 #[.val (.int q1), .val (.int q2), .val (.int q3), .val (.int (3 : Int32)), .val (.int a0), .val (.int a1), .val (.int a2), .val (.int b0), .val (.int b1), .val (.int b2), .val (.ref r90), .val (.ref r91), .unset, .unset, .unset] [(.int (own_dom3 a0 a1 a2 b0 b1 b2))]))
      refine own_by (fun t k => XS.istore X92.here hx rfl (hb hby at_99) rfl (l' := #[.val (.int q1), .val (.int q2), .val (.int q3), .val (.int (3 : Int32)), .val (.int a0), .val (.int a1), .val (.int a2), .val (.int b0), .val (.int b1), .val (.int b2), .val (.ref r90), .val (.ref r91), .val (.int (own_dom3 a0 a1 a2 b0 b1 b2)), .unset, .unset]) rfl k) ?_
      show own_Go p.tables e below K (T92.setTop (mkF m 101 #[.val (.int q1), .val (.int q2), .val (.int q3), .val (.int (3 : Int32)), .val (.int a0), .val (.int a1), .val (.int a2), .val (.int b0), .val (.int b1), .val (.int b2), .val (.ref r90), .val (.ref r91), .val (.int (own_dom3 a0 a1 a2 b0 b1 b2)), .unset, .unset] []))
      refine own_by (fun t k => XS.iloadN X92.here hx rfl (hb hby at_101) rfl k) ?_
      show own_Go p.tables e below K (T92.setTop (mkF m 102 #[.val (.int q1), .val (.int q2), .val (.int q3), .val (.int (3 : Int32)), .val (.int a0), .val (.int a1), .val (.int a2), .val (.int b0), .val (.int b1), .val (.int b2), .val (.ref r90), .val (.ref r91), .val (.int (own_dom3 a0 a1 a2 b0 b1 b2)), .unset, .unset] [(.int (3 : Int32))]))
      refine own_by (fun t k => XS.iconst X92.here hx rfl (hb hby at_102) k) ?_
      show own_Go p.tables e below K (T92.setTop (mkF m 103 #[.val (.int q1), .val (.int q2), .val (.int q3), .val (.int (3 : Int32)), .val (.int a0), .val (.int a1), .val (.int a2), .val (.int b0), .val (.int b1), .val (.int b2), .val (.ref r90), .val (.ref r91), .val (.int (own_dom3 a0 a1 a2 b0 b1 b2)), .unset, .unset] [(.int (1 : Int32)), (.int (3 : Int32))]))
      have hc103 : ¬ ((3 : Int32) < (1 : Int32)) := by decide
      refine own_by (fun t k => XS.icmpNo X92.here hx rfl (hb hby at_103) rfl (flt hc103).1 k) ?_
      show own_Go p.tables e below K (T92.setTop (mkF m 106 #[.val (.int q1), .val (.int q2), .val (.int q3), .val (.int (3 : Int32)), .val (.int a0), .val (.int a1), .val (.int a2), .val (.int b0), .val (.int b1), .val (.int b2), .val (.ref r90), .val (.ref r91), .val (.int (own_dom3 a0 a1 a2 b0 b1 b2)), .unset, .unset] []))
      refine own_by (fun t k => XS.iload X92.here hx rfl (hb hby at_106) rfl k) ?_
      show own_Go p.tables e below K (T92.setTop (mkF m 108 #[.val (.int q1), .val (.int q2), .val (.int q3), .val (.int (3 : Int32)), .val (.int a0), .val (.int a1), .val (.int a2), .val (.int b0), .val (.int b1), .val (.int b2), .val (.ref r90), .val (.ref r91), .val (.int (own_dom3 a0 a1 a2 b0 b1 b2)), .unset, .unset] [(.int a0)]))
      refine own_by (fun t k => XS.iload X92.here hx rfl (hb hby at_108) rfl k) ?_
      show own_Go p.tables e below K (T92.setTop (mkF m 110 #[.val (.int q1), .val (.int q2), .val (.int q3), .val (.int (3 : Int32)), .val (.int a0), .val (.int a1), .val (.int a2), .val (.int b0), .val (.int b1), .val (.int b2), .val (.ref r90), .val (.ref r91), .val (.int (own_dom3 a0 a1 a2 b0 b1 b2)), .unset, .unset] [(.int b0), (.int a0)]))
      by_cases hc110 : b0 < a0
      · refine own_by (fun t k => XS.icmpYes X92.here hx rfl (pc0 := 110) (pc' := 141) rfl (hb hby at_110) rfl (tlt hc110).2.2.1 (by decide) (by decide) k) ?_
        show own_Go p.tables e below K (T92.setTop (mkF m 141 #[.val (.int q1), .val (.int q2), .val (.int q3), .val (.int (3 : Int32)), .val (.int a0), .val (.int a1), .val (.int a2), .val (.int b0), .val (.int b1), .val (.int b2), .val (.ref r90), .val (.ref r91), .val (.int (own_dom3 a0 a1 a2 b0 b1 b2)), .unset, .unset] []))
        refine own_by (fun t k => XS.iconst X92.here hx rfl (hb hby at_141) k) ?_
        show own_Go p.tables e below K (T92.setTop (mkF m 142 #[.val (.int q1), .val (.int q2), .val (.int q3), .val (.int (3 : Int32)), .val (.int a0), .val (.int a1), .val (.int a2), .val (.int b0), .val (.int b1), .val (.int b2), .val (.ref r90), .val (.ref r91), .val (.int (own_dom3 a0 a1 a2 b0 b1 b2)), .unset, .unset] [(.int (0 : Int32))]))
        refine own_by (fun t k => XS.istore X92.here hx rfl (hb hby at_142) rfl (l' := #[.val (.int q1), .val (.int q2), .val (.int q3), .val (.int (3 : Int32)), .val (.int a0), .val (.int a1), .val (.int a2), .val (.int b0), .val (.int b1), .val (.int b2), .val (.ref r90), .val (.ref r91), .val (.int (own_dom3 a0 a1 a2 b0 b1 b2)), .val (.int (0 : Int32)), .unset]) rfl k) ?_
        show own_Go p.tables e below K (T92.setTop (mkF m 144 #[.val (.int q1), .val (.int q2), .val (.int q3), .val (.int (3 : Int32)), .val (.int a0), .val (.int a1), .val (.int a2), .val (.int b0), .val (.int b1), .val (.int b2), .val (.ref r90), .val (.ref r91), .val (.int (own_dom3 a0 a1 a2 b0 b1 b2)), .val (.int (0 : Int32)), .unset] []))
        refine own_by (fun t k => XS.iloadN X92.here hx rfl (hb hby at_144) rfl k) ?_
        show own_Go p.tables e below K (T92.setTop (mkF m 145 #[.val (.int q1), .val (.int q2), .val (.int q3), .val (.int (3 : Int32)), .val (.int a0), .val (.int a1), .val (.int a2), .val (.int b0), .val (.int b1), .val (.int b2), .val (.ref r90), .val (.ref r91), .val (.int (own_dom3 a0 a1 a2 b0 b1 b2)), .val (.int (0 : Int32)), .unset] [(.int (3 : Int32))]))
        refine own_by (fun t k => XS.iconst X92.here hx rfl (hb hby at_145) k) ?_
        show own_Go p.tables e below K (T92.setTop (mkF m 146 #[.val (.int q1), .val (.int q2), .val (.int q3), .val (.int (3 : Int32)), .val (.int a0), .val (.int a1), .val (.int a2), .val (.int b0), .val (.int b1), .val (.int b2), .val (.ref r90), .val (.ref r91), .val (.int (own_dom3 a0 a1 a2 b0 b1 b2)), .val (.int (0 : Int32)), .unset] [(.int (1 : Int32)), (.int (3 : Int32))]))
        have hc146 : ¬ ((3 : Int32) < (1 : Int32)) := by decide
        refine own_by (fun t k => XS.icmpNo X92.here hx rfl (hb hby at_146) rfl (flt hc146).1 k) ?_
        show own_Go p.tables e below K (T92.setTop (mkF m 149 #[.val (.int q1), .val (.int q2), .val (.int q3), .val (.int (3 : Int32)), .val (.int a0), .val (.int a1), .val (.int a2), .val (.int b0), .val (.int b1), .val (.int b2), .val (.ref r90), .val (.ref r91), .val (.int (own_dom3 a0 a1 a2 b0 b1 b2)), .val (.int (0 : Int32)), .unset] []))
        refine own_by (fun t k => XS.iload X92.here hx rfl (hb hby at_149) rfl k) ?_
        show own_Go p.tables e below K (T92.setTop (mkF m 151 #[.val (.int q1), .val (.int q2), .val (.int q3), .val (.int (3 : Int32)), .val (.int a0), .val (.int a1), .val (.int a2), .val (.int b0), .val (.int b1), .val (.int b2), .val (.ref r90), .val (.ref r91), .val (.int (own_dom3 a0 a1 a2 b0 b1 b2)), .val (.int (0 : Int32)), .unset] [(.int a0)]))
        refine own_by (fun t k => XS.iload X92.here hx rfl (hb hby at_151) rfl k) ?_
        show own_Go p.tables e below K (T92.setTop (mkF m 153 #[.val (.int q1), .val (.int q2), .val (.int q3), .val (.int (3 : Int32)), .val (.int a0), .val (.int a1), .val (.int a2), .val (.int b0), .val (.int b1), .val (.int b2), .val (.ref r90), .val (.ref r91), .val (.int (own_dom3 a0 a1 a2 b0 b1 b2)), .val (.int (0 : Int32)), .unset] [(.int b0), (.int a0)]))
        by_cases hc153 : a0 < b0
        · refine own_by (fun t k => XS.icmpYes X92.here hx rfl (pc0 := 153) (pc' := 180) rfl (hb hby at_153) rfl (tlt hc153).1 (by decide) (by decide) k) ?_
          show own_Go p.tables e below K (T92.setTop (mkF m 180 #[.val (.int q1), .val (.int q2), .val (.int q3), .val (.int (3 : Int32)), .val (.int a0), .val (.int a1), .val (.int a2), .val (.int b0), .val (.int b1), .val (.int b2), .val (.ref r90), .val (.ref r91), .val (.int (own_dom3 a0 a1 a2 b0 b1 b2)), .val (.int (0 : Int32)), .unset] []))
          refine own_by (fun t k => XS.iconst X92.here hx rfl (hb hby at_180) k) ?_
          show own_Go p.tables e below K (T92.setTop (mkF m 181 #[.val (.int q1), .val (.int q2), .val (.int q3), .val (.int (3 : Int32)), .val (.int a0), .val (.int a1), .val (.int a2), .val (.int b0), .val (.int b1), .val (.int b2), .val (.ref r90), .val (.ref r91), .val (.int (own_dom3 a0 a1 a2 b0 b1 b2)), .val (.int (0 : Int32)), .unset] [(.int (1 : Int32))]))
          refine own_by (fun t k => XS.goto X92.here hx rfl (pc0 := 181) (pc' := 185) rfl (hb hby at_181) (by decide) (by decide) k) ?_
          show own_Go p.tables e below K (T92.setTop (mkF m 185 #[.val (.int q1), .val (.int q2), .val (.int q3), .val (.int (3 : Int32)), .val (.int a0), .val (.int a1), .val (.int a2), .val (.int b0), .val (.int b1), .val (.int b2), .val (.ref r90), .val (.ref r91), .val (.int (own_dom3 a0 a1 a2 b0 b1 b2)), .val (.int (0 : Int32)), .unset] [(.int (1 : Int32))]))
          refine own_by (fun t k => XS.istore X92.here hx rfl (hb hby at_185) rfl (l' := #[.val (.int q1), .val (.int q2), .val (.int q3), .val (.int (3 : Int32)), .val (.int a0), .val (.int a1), .val (.int a2), .val (.int b0), .val (.int b1), .val (.int b2), .val (.ref r90), .val (.ref r91), .val (.int (own_dom3 a0 a1 a2 b0 b1 b2)), .val (.int (0 : Int32)), .val (.int (1 : Int32))]) rfl k) ?_
          show own_Go p.tables e below K (T92.setTop (mkF m 187 #[.val (.int q1), .val (.int q2), .val (.int q3), .val (.int (3 : Int32)), .val (.int a0), .val (.int a1), .val (.int a2), .val (.int b0), .val (.int b1), .val (.int b2), .val (.ref r90), .val (.ref r91), .val (.int (own_dom3 a0 a1 a2 b0 b1 b2)), .val (.int (0 : Int32)), .val (.int (1 : Int32))] []))
          refine own_by (fun t k => XS.iload X92.here hx rfl (hb hby at_187) rfl k) ?_
          show own_Go p.tables e below K (T92.setTop (mkF m 189 #[.val (.int q1), .val (.int q2), .val (.int q3), .val (.int (3 : Int32)), .val (.int a0), .val (.int a1), .val (.int a2), .val (.int b0), .val (.int b1), .val (.int b2), .val (.ref r90), .val (.ref r91), .val (.int (own_dom3 a0 a1 a2 b0 b1 b2)), .val (.int (0 : Int32)), .val (.int (1 : Int32))] [(.int (own_dom3 a0 a1 a2 b0 b1 b2))]))
          refine own_by (fun t k => XS.iload X92.here hx rfl (hb hby at_189) rfl k) ?_
          show own_Go p.tables e below K (T92.setTop (mkF m 191 #[.val (.int q1), .val (.int q2), .val (.int q3), .val (.int (3 : Int32)), .val (.int a0), .val (.int a1), .val (.int a2), .val (.int b0), .val (.int b1), .val (.int b2), .val (.ref r90), .val (.ref r91), .val (.int (own_dom3 a0 a1 a2 b0 b1 b2)), .val (.int (0 : Int32)), .val (.int (1 : Int32))] [(.int (0 : Int32)), (.int (own_dom3 a0 a1 a2 b0 b1 b2))]))
          have hc191 : (0 : Int32) = (0 : Int32) := by decide
          refine own_by (fun t k => XS.ifYes X92.here hx rfl (pc0 := 191) (pc' := 203) rfl (hb hby at_191) rfl ((if0 _ _).trans (teq hc191).1) (by decide) (by decide) k) ?_
          show own_Go p.tables e below K (T92.setTop (mkF m 203 #[.val (.int q1), .val (.int q2), .val (.int q3), .val (.int (3 : Int32)), .val (.int a0), .val (.int a1), .val (.int a2), .val (.int b0), .val (.int b1), .val (.int b2), .val (.ref r90), .val (.ref r91), .val (.int (own_dom3 a0 a1 a2 b0 b1 b2)), .val (.int (0 : Int32)), .val (.int (1 : Int32))] [(.int (own_dom3 a0 a1 a2 b0 b1 b2))]))
          refine own_by (fun t k => XS.iconst X92.here hx rfl (hb hby at_203) k) ?_
          show own_Go p.tables e below K (T92.setTop (mkF m 204 #[.val (.int q1), .val (.int q2), .val (.int q3), .val (.int (3 : Int32)), .val (.int a0), .val (.int a1), .val (.int a2), .val (.int b0), .val (.int b1), .val (.int b2), .val (.ref r90), .val (.ref r91), .val (.int (own_dom3 a0 a1 a2 b0 b1 b2)), .val (.int (0 : Int32)), .val (.int (1 : Int32))] [(.int (0 : Int32)), (.int (own_dom3 a0 a1 a2 b0 b1 b2))]))
          have hc204 : (own_dom3 a0 a1 a2 b0 b1 b2) = (0 : Int32) := by simp_all [own_dom3]
          refine own_by (fun t k => XS.icmpNo X92.here hx rfl (hb hby at_204) rfl (teq hc204).2 k) ?_
          show own_Go p.tables e below K (T92.setTop (mkF m 207 #[.val (.int q1), .val (.int q2), .val (.int q3), .val (.int (3 : Int32)), .val (.int a0), .val (.int a1), .val (.int a2), .val (.int b0), .val (.int b1), .val (.int b2), .val (.ref r90), .val (.ref r91), .val (.int (own_dom3 a0 a1 a2 b0 b1 b2)), .val (.int (0 : Int32)), .val (.int (1 : Int32))] []))
          refine own_by (fun t k => XS.iconst X92.here hx rfl (hb hby at_207) k) ?_
          show own_Go p.tables e below K (T92.setTop (mkF m 208 #[.val (.int q1), .val (.int q2), .val (.int q3), .val (.int (3 : Int32)), .val (.int a0), .val (.int a1), .val (.int a2), .val (.int b0), .val (.int b1), .val (.int b2), .val (.ref r90), .val (.ref r91), .val (.int (own_dom3 a0 a1 a2 b0 b1 b2)), .val (.int (0 : Int32)), .val (.int (1 : Int32))] [(.int (1 : Int32))]))
          refine own_by (fun t k => XS.goto X92.here hx rfl (pc0 := 208) (pc' := 212) rfl (hb hby at_208) (by decide) (by decide) k) ?_
          show own_Go p.tables e below K (T92.setTop (mkF m 212 #[.val (.int q1), .val (.int q2), .val (.int q3), .val (.int (3 : Int32)), .val (.int a0), .val (.int a1), .val (.int a2), .val (.int b0), .val (.int b1), .val (.int b2), .val (.ref r90), .val (.ref r91), .val (.int (own_dom3 a0 a1 a2 b0 b1 b2)), .val (.int (0 : Int32)), .val (.int (1 : Int32))] [(.int (1 : Int32))]))
          exact own_retZ X92 hx (t := .boolean) hret (by simp) (hb hby at_212) (hK (some (.int (1 : Int32))) X92 (fun h => by rw [hret] at h; cases h) (⟨rfl, N92⟩) (by decide) (by decide))
        · refine own_by (fun t k => XS.icmpNo X92.here hx rfl (hb hby at_153) rfl (flt hc153).1 k) ?_
          show own_Go p.tables e below K (T92.setTop (mkF m 156 #[.val (.int q1), .val (.int q2), .val (.int q3), .val (.int (3 : Int32)), .val (.int a0), .val (.int a1), .val (.int a2), .val (.int b0), .val (.int b1), .val (.int b2), .val (.ref r90), .val (.ref r91), .val (.int (own_dom3 a0 a1 a2 b0 b1 b2)), .val (.int (0 : Int32)), .unset] []))
          refine own_by (fun t k => XS.iloadN X92.here hx rfl (hb hby at_156) rfl k) ?_
          show own_Go p.tables e below K (T92.setTop (mkF m 157 #[.val (.int q1), .val (.int q2), .val (.int q3), .val (.int (3 : Int32)), .val (.int a0), .val (.int a1), .val (.int a2), .val (.int b0), .val (.int b1), .val (.int b2), .val (.ref r90), .val (.ref r91), .val (.int (own_dom3 a0 a1 a2 b0 b1 b2)), .val (.int (0 : Int32)), .unset] [(.int (3 : Int32))]))
          refine own_by (fun t k => XS.iconst X92.here hx rfl (hb hby at_157) k) ?_
          show own_Go p.tables e below K (T92.setTop (mkF m 158 #[.val (.int q1), .val (.int q2), .val (.int q3), .val (.int (3 : Int32)), .val (.int a0), .val (.int a1), .val (.int a2), .val (.int b0), .val (.int b1), .val (.int b2), .val (.ref r90), .val (.ref r91), .val (.int (own_dom3 a0 a1 a2 b0 b1 b2)), .val (.int (0 : Int32)), .unset] [(.int (2 : Int32)), (.int (3 : Int32))]))
          have hc158 : ¬ ((3 : Int32) < (2 : Int32)) := by decide
          refine own_by (fun t k => XS.icmpNo X92.here hx rfl (hb hby at_158) rfl (flt hc158).1 k) ?_
          show own_Go p.tables e below K (T92.setTop (mkF m 161 #[.val (.int q1), .val (.int q2), .val (.int q3), .val (.int (3 : Int32)), .val (.int a0), .val (.int a1), .val (.int a2), .val (.int b0), .val (.int b1), .val (.int b2), .val (.ref r90), .val (.ref r91), .val (.int (own_dom3 a0 a1 a2 b0 b1 b2)), .val (.int (0 : Int32)), .unset] []))
          refine own_by (fun t k => XS.iload X92.here hx rfl (hb hby at_161) rfl k) ?_
          show own_Go p.tables e below K (T92.setTop (mkF m 163 #[.val (.int q1), .val (.int q2), .val (.int q3), .val (.int (3 : Int32)), .val (.int a0), .val (.int a1), .val (.int a2), .val (.int b0), .val (.int b1), .val (.int b2), .val (.ref r90), .val (.ref r91), .val (.int (own_dom3 a0 a1 a2 b0 b1 b2)), .val (.int (0 : Int32)), .unset] [(.int a1)]))
          refine own_by (fun t k => XS.iload X92.here hx rfl (hb hby at_163) rfl k) ?_
          show own_Go p.tables e below K (T92.setTop (mkF m 165 #[.val (.int q1), .val (.int q2), .val (.int q3), .val (.int (3 : Int32)), .val (.int a0), .val (.int a1), .val (.int a2), .val (.int b0), .val (.int b1), .val (.int b2), .val (.ref r90), .val (.ref r91), .val (.int (own_dom3 a0 a1 a2 b0 b1 b2)), .val (.int (0 : Int32)), .unset] [(.int b1), (.int a1)]))
          by_cases hc165 : a1 < b1
          · refine own_by (fun t k => XS.icmpYes X92.here hx rfl (pc0 := 165) (pc' := 180) rfl (hb hby at_165) rfl (tlt hc165).1 (by decide) (by decide) k) ?_
            show own_Go p.tables e below K (T92.setTop (mkF m 180 #[.val (.int q1), .val (.int q2), .val (.int q3), .val (.int (3 : Int32)), .val (.int a0), .val (.int a1), .val (.int a2), .val (.int b0), .val (.int b1), .val (.int b2), .val (.ref r90), .val (.ref r91), .val (.int (own_dom3 a0 a1 a2 b0 b1 b2)), .val (.int (0 : Int32)), .unset] []))
            refine own_by (fun t k => XS.iconst X92.here hx rfl (hb hby at_180) k) ?_
            show own_Go p.tables e below K (T92.setTop (mkF m 181 #[.val (.int q1), .val (.int q2), .val (.int q3), .val (.int (3 : Int32)), .val (.int a0), .val (.int a1), .val (.int a2), .val (.int b0), .val (.int b1), .val (.int b2), .val (.ref r90), .val (.ref r91), .val (.int (own_dom3 a0 a1 a2 b0 b1 b2)), .val (.int (0 : Int32)), .unset] [(.int (1 : Int32))]))
            refine own_by (fun t k => XS.goto X92.here hx rfl (pc0 := 181) (pc' := 185) rfl (hb hby at_181) (by decide) (by decide) k) ?_
            show own_Go p.tables e below K (T92.setTop (mkF m 185 #[.val (.int q1), .val (.int q2), .val (.int q3), .val (.int (3 : Int32)), .val (.int a0), .val (.int a1), .val (.int a2), .val (.int b0), .val (.int b1), .val (.int b2), .val (.ref r90), .val (.ref r91), .val (.int (own_dom3 a0 a1 a2 b0 b1 b2)), .val (.int (0 : Int32)), .unset] [(.int (1 : Int32))]))
            refine own_by (fun t k => XS.istore X92.here hx rfl (hb hby at_185) rfl (l' := #[.val (.int q1), .val (.int q2), .val (.int q3), .val (.int (3 : Int32)), .val (.int a0), .val (.int a1), .val (.int a2), .val (.int b0), .val (.int b1), .val (.int b2), .val (.ref r90), .val (.ref r91), .val (.int (own_dom3 a0 a1 a2 b0 b1 b2)), .val (.int (0 : Int32)), .val (.int (1 : Int32))]) rfl k) ?_
            show own_Go p.tables e below K (T92.setTop (mkF m 187 #[.val (.int q1), .val (.int q2), .val (.int q3), .val (.int (3 : Int32)), .val (.int a0), .val (.int a1), .val (.int a2), .val (.int b0), .val (.int b1), .val (.int b2), .val (.ref r90), .val (.ref r91), .val (.int (own_dom3 a0 a1 a2 b0 b1 b2)), .val (.int (0 : Int32)), .val (.int (1 : Int32))] []))
            refine own_by (fun t k => XS.iload X92.here hx rfl (hb hby at_187) rfl k) ?_
            show own_Go p.tables e below K (T92.setTop (mkF m 189 #[.val (.int q1), .val (.int q2), .val (.int q3), .val (.int (3 : Int32)), .val (.int a0), .val (.int a1), .val (.int a2), .val (.int b0), .val (.int b1), .val (.int b2), .val (.ref r90), .val (.ref r91), .val (.int (own_dom3 a0 a1 a2 b0 b1 b2)), .val (.int (0 : Int32)), .val (.int (1 : Int32))] [(.int (own_dom3 a0 a1 a2 b0 b1 b2))]))
            refine own_by (fun t k => XS.iload X92.here hx rfl (hb hby at_189) rfl k) ?_
            show own_Go p.tables e below K (T92.setTop (mkF m 191 #[.val (.int q1), .val (.int q2), .val (.int q3), .val (.int (3 : Int32)), .val (.int a0), .val (.int a1), .val (.int a2), .val (.int b0), .val (.int b1), .val (.int b2), .val (.ref r90), .val (.ref r91), .val (.int (own_dom3 a0 a1 a2 b0 b1 b2)), .val (.int (0 : Int32)), .val (.int (1 : Int32))] [(.int (0 : Int32)), (.int (own_dom3 a0 a1 a2 b0 b1 b2))]))
            have hc191 : (0 : Int32) = (0 : Int32) := by decide
            refine own_by (fun t k => XS.ifYes X92.here hx rfl (pc0 := 191) (pc' := 203) rfl (hb hby at_191) rfl ((if0 _ _).trans (teq hc191).1) (by decide) (by decide) k) ?_
            show own_Go p.tables e below K (T92.setTop (mkF m 203 #[.val (.int q1), .val (.int q2), .val (.int q3), .val (.int (3 : Int32)), .val (.int a0), .val (.int a1), .val (.int a2), .val (.int b0), .val (.int b1), .val (.int b2), .val (.ref r90), .val (.ref r91), .val (.int (own_dom3 a0 a1 a2 b0 b1 b2)), .val (.int (0 : Int32)), .val (.int (1 : Int32))] [(.int (own_dom3 a0 a1 a2 b0 b1 b2))]))
            refine own_by (fun t k => XS.iconst X92.here hx rfl (hb hby at_203) k) ?_
            show own_Go p.tables e below K (T92.setTop (mkF m 204 #[.val (.int q1), .val (.int q2), .val (.int q3), .val (.int (3 : Int32)), .val (.int a0), .val (.int a1), .val (.int a2), .val (.int b0), .val (.int b1), .val (.int b2), .val (.ref r90), .val (.ref r91), .val (.int (own_dom3 a0 a1 a2 b0 b1 b2)), .val (.int (0 : Int32)), .val (.int (1 : Int32))] [(.int (0 : Int32)), (.int (own_dom3 a0 a1 a2 b0 b1 b2))]))
            have hc204 : (own_dom3 a0 a1 a2 b0 b1 b2) = (0 : Int32) := by simp_all [own_dom3]
            refine own_by (fun t k => XS.icmpNo X92.here hx rfl (hb hby at_204) rfl (teq hc204).2 k) ?_
            show own_Go p.tables e below K (T92.setTop (mkF m 207 #[.val (.int q1), .val (.int q2), .val (.int q3), .val (.int (3 : Int32)), .val (.int a0), .val (.int a1), .val (.int a2), .val (.int b0), .val (.int b1), .val (.int b2), .val (.ref r90), .val (.ref r91), .val (.int (own_dom3 a0 a1 a2 b0 b1 b2)), .val (.int (0 : Int32)), .val (.int (1 : Int32))] []))
            refine own_by (fun t k => XS.iconst X92.here hx rfl (hb hby at_207) k) ?_
            show own_Go p.tables e below K (T92.setTop (mkF m 208 #[.val (.int q1), .val (.int q2), .val (.int q3), .val (.int (3 : Int32)), .val (.int a0), .val (.int a1), .val (.int a2), .val (.int b0), .val (.int b1), .val (.int b2), .val (.ref r90), .val (.ref r91), .val (.int (own_dom3 a0 a1 a2 b0 b1 b2)), .val (.int (0 : Int32)), .val (.int (1 : Int32))] [(.int (1 : Int32))]))
            refine own_by (fun t k => XS.goto X92.here hx rfl (pc0 := 208) (pc' := 212) rfl (hb hby at_208) (by decide) (by decide) k) ?_
            show own_Go p.tables e below K (T92.setTop (mkF m 212 #[.val (.int q1), .val (.int q2), .val (.int q3), .val (.int (3 : Int32)), .val (.int a0), .val (.int a1), .val (.int a2), .val (.int b0), .val (.int b1), .val (.int b2), .val (.ref r90), .val (.ref r91), .val (.int (own_dom3 a0 a1 a2 b0 b1 b2)), .val (.int (0 : Int32)), .val (.int (1 : Int32))] [(.int (1 : Int32))]))
            exact own_retZ X92 hx (t := .boolean) hret (by simp) (hb hby at_212) (hK (some (.int (1 : Int32))) X92 (fun h => by rw [hret] at h; cases h) (⟨rfl, N92⟩) (by decide) (by decide))
          · refine own_by (fun t k => XS.icmpNo X92.here hx rfl (hb hby at_165) rfl (flt hc165).1 k) ?_
            show own_Go p.tables e below K (T92.setTop (mkF m 168 #[.val (.int q1), .val (.int q2), .val (.int q3), .val (.int (3 : Int32)), .val (.int a0), .val (.int a1), .val (.int a2), .val (.int b0), .val (.int b1), .val (.int b2), .val (.ref r90), .val (.ref r91), .val (.int (own_dom3 a0 a1 a2 b0 b1 b2)), .val (.int (0 : Int32)), .unset] []))
            refine own_by (fun t k => XS.iloadN X92.here hx rfl (hb hby at_168) rfl k) ?_
            show own_Go p.tables e below K (T92.setTop (mkF m 169 #[.val (.int q1), .val (.int q2), .val (.int q3), .val (.int (3 : Int32)), .val (.int a0), .val (.int a1), .val (.int a2), .val (.int b0), .val (.int b1), .val (.int b2), .val (.ref r90), .val (.ref r91), .val (.int (own_dom3 a0 a1 a2 b0 b1 b2)), .val (.int (0 : Int32)), .unset] [(.int (3 : Int32))]))
            refine own_by (fun t k => XS.iconst X92.here hx rfl (hb hby at_169) k) ?_
            show own_Go p.tables e below K (T92.setTop (mkF m 170 #[.val (.int q1), .val (.int q2), .val (.int q3), .val (.int (3 : Int32)), .val (.int a0), .val (.int a1), .val (.int a2), .val (.int b0), .val (.int b1), .val (.int b2), .val (.ref r90), .val (.ref r91), .val (.int (own_dom3 a0 a1 a2 b0 b1 b2)), .val (.int (0 : Int32)), .unset] [(.int (3 : Int32)), (.int (3 : Int32))]))
            have hc170 : ¬ ((3 : Int32) < (3 : Int32)) := by decide
            refine own_by (fun t k => XS.icmpNo X92.here hx rfl (hb hby at_170) rfl (flt hc170).1 k) ?_
            show own_Go p.tables e below K (T92.setTop (mkF m 173 #[.val (.int q1), .val (.int q2), .val (.int q3), .val (.int (3 : Int32)), .val (.int a0), .val (.int a1), .val (.int a2), .val (.int b0), .val (.int b1), .val (.int b2), .val (.ref r90), .val (.ref r91), .val (.int (own_dom3 a0 a1 a2 b0 b1 b2)), .val (.int (0 : Int32)), .unset] []))
            refine own_by (fun t k => XS.iload X92.here hx rfl (hb hby at_173) rfl k) ?_
            show own_Go p.tables e below K (T92.setTop (mkF m 175 #[.val (.int q1), .val (.int q2), .val (.int q3), .val (.int (3 : Int32)), .val (.int a0), .val (.int a1), .val (.int a2), .val (.int b0), .val (.int b1), .val (.int b2), .val (.ref r90), .val (.ref r91), .val (.int (own_dom3 a0 a1 a2 b0 b1 b2)), .val (.int (0 : Int32)), .unset] [(.int a2)]))
            refine own_by (fun t k => XS.iload X92.here hx rfl (hb hby at_175) rfl k) ?_
            show own_Go p.tables e below K (T92.setTop (mkF m 177 #[.val (.int q1), .val (.int q2), .val (.int q3), .val (.int (3 : Int32)), .val (.int a0), .val (.int a1), .val (.int a2), .val (.int b0), .val (.int b1), .val (.int b2), .val (.ref r90), .val (.ref r91), .val (.int (own_dom3 a0 a1 a2 b0 b1 b2)), .val (.int (0 : Int32)), .unset] [(.int b2), (.int a2)]))
            by_cases hc177 : a2 < b2
            · refine own_by (fun t k => XS.icmpNo X92.here hx rfl (hb hby at_177) rfl (tlt hc177).2.1 k) ?_
              show own_Go p.tables e below K (T92.setTop (mkF m 180 #[.val (.int q1), .val (.int q2), .val (.int q3), .val (.int (3 : Int32)), .val (.int a0), .val (.int a1), .val (.int a2), .val (.int b0), .val (.int b1), .val (.int b2), .val (.ref r90), .val (.ref r91), .val (.int (own_dom3 a0 a1 a2 b0 b1 b2)), .val (.int (0 : Int32)), .unset] []))
              refine own_by (fun t k => XS.iconst X92.here hx rfl (hb hby at_180) k) ?_
              show own_Go p.tables e below K (T92.setTop (mkF m 181 #[.val (.int q1), .val (.int q2), .val (.int q3), .val (.int (3 : Int32)), .val (.int a0), .val (.int a1), .val (.int a2), .val (.int b0), .val (.int b1), .val (.int b2), .val (.ref r90), .val (.ref r91), .val (.int (own_dom3 a0 a1 a2 b0 b1 b2)), .val (.int (0 : Int32)), .unset] [(.int (1 : Int32))]))
              refine own_by (fun t k => XS.goto X92.here hx rfl (pc0 := 181) (pc' := 185) rfl (hb hby at_181) (by decide) (by decide) k) ?_
              show own_Go p.tables e below K (T92.setTop (mkF m 185 #[.val (.int q1), .val (.int q2), .val (.int q3), .val (.int (3 : Int32)), .val (.int a0), .val (.int a1), .val (.int a2), .val (.int b0), .val (.int b1), .val (.int b2), .val (.ref r90), .val (.ref r91), .val (.int (own_dom3 a0 a1 a2 b0 b1 b2)), .val (.int (0 : Int32)), .unset] [(.int (1 : Int32))]))
              refine own_by (fun t k => XS.istore X92.here hx rfl (hb hby at_185) rfl (l' := #[.val (.int q1), .val (.int q2), .val (.int q3), .val (.int (3 : Int32)), .val (.int a0), .val (.int a1), .val (.int a2), .val (.int b0), .val (.int b1), .val (.int b2), .val (.ref r90), .val (.ref r91), .val (.int (own_dom3 a0 a1 a2 b0 b1 b2)), .val (.int (0 : Int32)), .val (.int (1 : Int32))]) rfl k) ?_
              show own_Go p.tables e below K (T92.setTop (mkF m 187 #[.val (.int q1), .val (.int q2), .val (.int q3), .val (.int (3 : Int32)), .val (.int a0), .val (.int a1), .val (.int a2), .val (.int b0), .val (.int b1), .val (.int b2), .val (.ref r90), .val (.ref r91), .val (.int (own_dom3 a0 a1 a2 b0 b1 b2)), .val (.int (0 : Int32)), .val (.int (1 : Int32))] []))
              refine own_by (fun t k => XS.iload X92.here hx rfl (hb hby at_187) rfl k) ?_
              show own_Go p.tables e below K (T92.setTop (mkF m 189 #[.val (.int q1), .val (.int q2), .val (.int q3), .val (.int (3 : Int32)), .val (.int a0), .val (.int a1), .val (.int a2), .val (.int b0), .val (.int b1), .val (.int b2), .val (.ref r90), .val (.ref r91), .val (.int (own_dom3 a0 a1 a2 b0 b1 b2)), .val (.int (0 : Int32)), .val (.int (1 : Int32))] [(.int (own_dom3 a0 a1 a2 b0 b1 b2))]))
              refine own_by (fun t k => XS.iload X92.here hx rfl (hb hby at_189) rfl k) ?_
              show own_Go p.tables e below K (T92.setTop (mkF m 191 #[.val (.int q1), .val (.int q2), .val (.int q3), .val (.int (3 : Int32)), .val (.int a0), .val (.int a1), .val (.int a2), .val (.int b0), .val (.int b1), .val (.int b2), .val (.ref r90), .val (.ref r91), .val (.int (own_dom3 a0 a1 a2 b0 b1 b2)), .val (.int (0 : Int32)), .val (.int (1 : Int32))] [(.int (0 : Int32)), (.int (own_dom3 a0 a1 a2 b0 b1 b2))]))
              have hc191 : (0 : Int32) = (0 : Int32) := by decide
              refine own_by (fun t k => XS.ifYes X92.here hx rfl (pc0 := 191) (pc' := 203) rfl (hb hby at_191) rfl ((if0 _ _).trans (teq hc191).1) (by decide) (by decide) k) ?_
              show own_Go p.tables e below K (T92.setTop (mkF m 203 #[.val (.int q1), .val (.int q2), .val (.int q3), .val (.int (3 : Int32)), .val (.int a0), .val (.int a1), .val (.int a2), .val (.int b0), .val (.int b1), .val (.int b2), .val (.ref r90), .val (.ref r91), .val (.int (own_dom3 a0 a1 a2 b0 b1 b2)), .val (.int (0 : Int32)), .val (.int (1 : Int32))] [(.int (own_dom3 a0 a1 a2 b0 b1 b2))]))
              refine own_by (fun t k => XS.iconst X92.here hx rfl (hb hby at_203) k) ?_
              show own_Go p.tables e below K (T92.setTop (mkF m 204 #[.val (.int q1), .val (.int q2), .val (.int q3), .val (.int (3 : Int32)), .val (.int a0), .val (.int a1), .val (.int a2), .val (.int b0), .val (.int b1), .val (.int b2), .val (.ref r90), .val (.ref r91), .val (.int (own_dom3 a0 a1 a2 b0 b1 b2)), .val (.int (0 : Int32)), .val (.int (1 : Int32))] [(.int (0 : Int32)), (.int (own_dom3 a0 a1 a2 b0 b1 b2))]))
              have hc204 : (own_dom3 a0 a1 a2 b0 b1 b2) = (0 : Int32) := by simp_all [own_dom3]
              refine own_by (fun t k => XS.icmpNo X92.here hx rfl (hb hby at_204) rfl (teq hc204).2 k) ?_
              show own_Go p.tables e below K (T92.setTop (mkF m 207 #[.val (.int q1), .val (.int q2), .val (.int q3), .val (.int (3 : Int32)), .val (.int a0), .val (.int a1), .val (.int a2), .val (.int b0), .val (.int b1), .val (.int b2), .val (.ref r90), .val (.ref r91), .val (.int (own_dom3 a0 a1 a2 b0 b1 b2)), .val (.int (0 : Int32)), .val (.int (1 : Int32))] []))
              refine own_by (fun t k => XS.iconst X92.here hx rfl (hb hby at_207) k) ?_
              show own_Go p.tables e below K (T92.setTop (mkF m 208 #[.val (.int q1), .val (.int q2), .val (.int q3), .val (.int (3 : Int32)), .val (.int a0), .val (.int a1), .val (.int a2), .val (.int b0), .val (.int b1), .val (.int b2), .val (.ref r90), .val (.ref r91), .val (.int (own_dom3 a0 a1 a2 b0 b1 b2)), .val (.int (0 : Int32)), .val (.int (1 : Int32))] [(.int (1 : Int32))]))
              refine own_by (fun t k => XS.goto X92.here hx rfl (pc0 := 208) (pc' := 212) rfl (hb hby at_208) (by decide) (by decide) k) ?_
              show own_Go p.tables e below K (T92.setTop (mkF m 212 #[.val (.int q1), .val (.int q2), .val (.int q3), .val (.int (3 : Int32)), .val (.int a0), .val (.int a1), .val (.int a2), .val (.int b0), .val (.int b1), .val (.int b2), .val (.ref r90), .val (.ref r91), .val (.int (own_dom3 a0 a1 a2 b0 b1 b2)), .val (.int (0 : Int32)), .val (.int (1 : Int32))] [(.int (1 : Int32))]))
              exact own_retZ X92 hx (t := .boolean) hret (by simp) (hb hby at_212) (hK (some (.int (1 : Int32))) X92 (fun h => by rw [hret] at h; cases h) (⟨rfl, N92⟩) (by decide) (by decide))
            · refine own_by (fun t k => XS.icmpYes X92.here hx rfl (pc0 := 177) (pc' := 184) rfl (hb hby at_177) rfl (flt hc177).2.1 (by decide) (by decide) k) ?_
              show own_Go p.tables e below K (T92.setTop (mkF m 184 #[.val (.int q1), .val (.int q2), .val (.int q3), .val (.int (3 : Int32)), .val (.int a0), .val (.int a1), .val (.int a2), .val (.int b0), .val (.int b1), .val (.int b2), .val (.ref r90), .val (.ref r91), .val (.int (own_dom3 a0 a1 a2 b0 b1 b2)), .val (.int (0 : Int32)), .unset] []))
              refine own_by (fun t k => XS.iconst X92.here hx rfl (hb hby at_184) k) ?_
              show own_Go p.tables e below K (T92.setTop (mkF m 185 #[.val (.int q1), .val (.int q2), .val (.int q3), .val (.int (3 : Int32)), .val (.int a0), .val (.int a1), .val (.int a2), .val (.int b0), .val (.int b1), .val (.int b2), .val (.ref r90), .val (.ref r91), .val (.int (own_dom3 a0 a1 a2 b0 b1 b2)), .val (.int (0 : Int32)), .unset] [(.int (0 : Int32))]))
              refine own_by (fun t k => XS.istore X92.here hx rfl (hb hby at_185) rfl (l' := #[.val (.int q1), .val (.int q2), .val (.int q3), .val (.int (3 : Int32)), .val (.int a0), .val (.int a1), .val (.int a2), .val (.int b0), .val (.int b1), .val (.int b2), .val (.ref r90), .val (.ref r91), .val (.int (own_dom3 a0 a1 a2 b0 b1 b2)), .val (.int (0 : Int32)), .val (.int (0 : Int32))]) rfl k) ?_
              show own_Go p.tables e below K (T92.setTop (mkF m 187 #[.val (.int q1), .val (.int q2), .val (.int q3), .val (.int (3 : Int32)), .val (.int a0), .val (.int a1), .val (.int a2), .val (.int b0), .val (.int b1), .val (.int b2), .val (.ref r90), .val (.ref r91), .val (.int (own_dom3 a0 a1 a2 b0 b1 b2)), .val (.int (0 : Int32)), .val (.int (0 : Int32))] []))
              refine own_by (fun t k => XS.iload X92.here hx rfl (hb hby at_187) rfl k) ?_
              show own_Go p.tables e below K (T92.setTop (mkF m 189 #[.val (.int q1), .val (.int q2), .val (.int q3), .val (.int (3 : Int32)), .val (.int a0), .val (.int a1), .val (.int a2), .val (.int b0), .val (.int b1), .val (.int b2), .val (.ref r90), .val (.ref r91), .val (.int (own_dom3 a0 a1 a2 b0 b1 b2)), .val (.int (0 : Int32)), .val (.int (0 : Int32))] [(.int (own_dom3 a0 a1 a2 b0 b1 b2))]))
              refine own_by (fun t k => XS.iload X92.here hx rfl (hb hby at_189) rfl k) ?_
              show own_Go p.tables e below K (T92.setTop (mkF m 191 #[.val (.int q1), .val (.int q2), .val (.int q3), .val (.int (3 : Int32)), .val (.int a0), .val (.int a1), .val (.int a2), .val (.int b0), .val (.int b1), .val (.int b2), .val (.ref r90), .val (.ref r91), .val (.int (own_dom3 a0 a1 a2 b0 b1 b2)), .val (.int (0 : Int32)), .val (.int (0 : Int32))] [(.int (0 : Int32)), (.int (own_dom3 a0 a1 a2 b0 b1 b2))]))
              have hc191 : (0 : Int32) = (0 : Int32) := by decide
              refine own_by (fun t k => XS.ifYes X92.here hx rfl (pc0 := 191) (pc' := 203) rfl (hb hby at_191) rfl ((if0 _ _).trans (teq hc191).1) (by decide) (by decide) k) ?_
              show own_Go p.tables e below K (T92.setTop (mkF m 203 #[.val (.int q1), .val (.int q2), .val (.int q3), .val (.int (3 : Int32)), .val (.int a0), .val (.int a1), .val (.int a2), .val (.int b0), .val (.int b1), .val (.int b2), .val (.ref r90), .val (.ref r91), .val (.int (own_dom3 a0 a1 a2 b0 b1 b2)), .val (.int (0 : Int32)), .val (.int (0 : Int32))] [(.int (own_dom3 a0 a1 a2 b0 b1 b2))]))
              refine own_by (fun t k => XS.iconst X92.here hx rfl (hb hby at_203) k) ?_
              show own_Go p.tables e below K (T92.setTop (mkF m 204 #[.val (.int q1), .val (.int q2), .val (.int q3), .val (.int (3 : Int32)), .val (.int a0), .val (.int a1), .val (.int a2), .val (.int b0), .val (.int b1), .val (.int b2), .val (.ref r90), .val (.ref r91), .val (.int (own_dom3 a0 a1 a2 b0 b1 b2)), .val (.int (0 : Int32)), .val (.int (0 : Int32))] [(.int (0 : Int32)), (.int (own_dom3 a0 a1 a2 b0 b1 b2))]))
              have hc204 : (own_dom3 a0 a1 a2 b0 b1 b2) = (0 : Int32) := by simp_all [own_dom3]
              refine own_by (fun t k => XS.icmpNo X92.here hx rfl (hb hby at_204) rfl (teq hc204).2 k) ?_
              show own_Go p.tables e below K (T92.setTop (mkF m 207 #[.val (.int q1), .val (.int q2), .val (.int q3), .val (.int (3 : Int32)), .val (.int a0), .val (.int a1), .val (.int a2), .val (.int b0), .val (.int b1), .val (.int b2), .val (.ref r90), .val (.ref r91), .val (.int (own_dom3 a0 a1 a2 b0 b1 b2)), .val (.int (0 : Int32)), .val (.int (0 : Int32))] []))
              refine own_by (fun t k => XS.iconst X92.here hx rfl (hb hby at_207) k) ?_
              show own_Go p.tables e below K (T92.setTop (mkF m 208 #[.val (.int q1), .val (.int q2), .val (.int q3), .val (.int (3 : Int32)), .val (.int a0), .val (.int a1), .val (.int a2), .val (.int b0), .val (.int b1), .val (.int b2), .val (.ref r90), .val (.ref r91), .val (.int (own_dom3 a0 a1 a2 b0 b1 b2)), .val (.int (0 : Int32)), .val (.int (0 : Int32))] [(.int (1 : Int32))]))
              refine own_by (fun t k => XS.goto X92.here hx rfl (pc0 := 208) (pc' := 212) rfl (hb hby at_208) (by decide) (by decide) k) ?_
              show own_Go p.tables e below K (T92.setTop (mkF m 212 #[.val (.int q1), .val (.int q2), .val (.int q3), .val (.int (3 : Int32)), .val (.int a0), .val (.int a1), .val (.int a2), .val (.int b0), .val (.int b1), .val (.int b2), .val (.ref r90), .val (.ref r91), .val (.int (own_dom3 a0 a1 a2 b0 b1 b2)), .val (.int (0 : Int32)), .val (.int (0 : Int32))] [(.int (1 : Int32))]))
              exact own_retZ X92 hx (t := .boolean) hret (by simp) (hb hby at_212) (hK (some (.int (1 : Int32))) X92 (fun h => by rw [hret] at h; cases h) (⟨rfl, N92⟩) (by decide) (by decide))
      · refine own_by (fun t k => XS.icmpNo X92.here hx rfl (hb hby at_110) rfl (flt hc110).2.2.1 k) ?_
        show own_Go p.tables e below K (T92.setTop (mkF m 113 #[.val (.int q1), .val (.int q2), .val (.int q3), .val (.int (3 : Int32)), .val (.int a0), .val (.int a1), .val (.int a2), .val (.int b0), .val (.int b1), .val (.int b2), .val (.ref r90), .val (.ref r91), .val (.int (own_dom3 a0 a1 a2 b0 b1 b2)), .unset, .unset] []))
        refine own_by (fun t k => XS.iloadN X92.here hx rfl (hb hby at_113) rfl k) ?_
        show own_Go p.tables e below K (T92.setTop (mkF m 114 #[.val (.int q1), .val (.int q2), .val (.int q3), .val (.int (3 : Int32)), .val (.int a0), .val (.int a1), .val (.int a2), .val (.int b0), .val (.int b1), .val (.int b2), .val (.ref r90), .val (.ref r91), .val (.int (own_dom3 a0 a1 a2 b0 b1 b2)), .unset, .unset] [(.int (3 : Int32))]))
        refine own_by (fun t k => XS.iconst X92.here hx rfl (hb hby at_114) k) ?_
        show own_Go p.tables e below K (T92.setTop (mkF m 115 #[.val (.int q1), .val (.int q2), .val (.int q3), .val (.int (3 : Int32)), .val (.int a0), .val (.int a1), .val (.int a2), .val (.int b0), .val (.int b1), .val (.int b2), .val (.ref r90), .val (.ref r91), .val (.int (own_dom3 a0 a1 a2 b0 b1 b2)), .unset, .unset] [(.int (2 : Int32)), (.int (3 : Int32))]))
        have hc115 : ¬ ((3 : Int32) < (2 : Int32)) := by decide
        refine own_by (fun t k => XS.icmpNo X92.here hx rfl (hb hby at_115) rfl (flt hc115).1 k) ?_
        show own_Go p.tables e below K (T92.setTop (mkF m 118 #[.val (.int q1), .val (.int q2), .val (.int q3), .val (.int (3 : Int32)), .val (.int a0), .val (.int a1), .val (.int a2), .val (.int b0), .val (.int b1), .val (.int b2), .val (.ref r90), .val (.ref r91), .val (.int (own_dom3 a0 a1 a2 b0 b1 b2)), .unset, .unset] []))
        refine own_by (fun t k => XS.iload X92.here hx rfl (hb hby at_118) rfl k) ?_
        show own_Go p.tables e below K (T92.setTop (mkF m 120 #[.val (.int q1), .val (.int q2), .val (.int q3), .val (.int (3 : Int32)), .val (.int a0), .val (.int a1), .val (.int a2), .val (.int b0), .val (.int b1), .val (.int b2), .val (.ref r90), .val (.ref r91), .val (.int (own_dom3 a0 a1 a2 b0 b1 b2)), .unset, .unset] [(.int a1)]))
        refine own_by (fun t k => XS.iload X92.here hx rfl (hb hby at_120) rfl k) ?_
        show own_Go p.tables e below K (T92.setTop (mkF m 122 #[.val (.int q1), .val (.int q2), .val (.int q3), .val (.int (3 : Int32)), .val (.int a0), .val (.int a1), .val (.int a2), .val (.int b0), .val (.int b1), .val (.int b2), .val (.ref r90), .val (.ref r91), .val (.int (own_dom3 a0 a1 a2 b0 b1 b2)), .unset, .unset] [(.int b1), (.int a1)]))
        by_cases hc122 : b1 < a1
        · refine own_by (fun t k => XS.icmpYes X92.here hx rfl (pc0 := 122) (pc' := 141) rfl (hb hby at_122) rfl (tlt hc122).2.2.1 (by decide) (by decide) k) ?_
          show own_Go p.tables e below K (T92.setTop (mkF m 141 #[.val (.int q1), .val (.int q2), .val (.int q3), .val (.int (3 : Int32)), .val (.int a0), .val (.int a1), .val (.int a2), .val (.int b0), .val (.int b1), .val (.int b2), .val (.ref r90), .val (.ref r91), .val (.int (own_dom3 a0 a1 a2 b0 b1 b2)), .unset, .unset] []))
          refine own_by (fun t k => XS.iconst X92.here hx rfl (hb hby at_141) k) ?_
          show own_Go p.tables e below K (T92.setTop (mkF m 142 #[.val (.int q1), .val (.int q2), .val (.int q3), .val (.int (3 : Int32)), .val (.int a0), .val (.int a1), .val (.int a2), .val (.int b0), .val (.int b1), .val (.int b2), .val (.ref r90), .val (.ref r91), .val (.int (own_dom3 a0 a1 a2 b0 b1 b2)), .unset, .unset] [(.int (0 : Int32))]))
          refine own_by (fun t k => XS.istore X92.here hx rfl (hb hby at_142) rfl (l' := #[.val (.int q1), .val (.int q2), .val (.int q3), .val (.int (3 : Int32)), .val (.int a0), .val (.int a1), .val (.int a2), .val (.int b0), .val (.int b1), .val (.int b2), .val (.ref r90), .val (.ref r91), .val (.int (own_dom3 a0 a1 a2 b0 b1 b2)), .val (.int (0 : Int32)), .unset]) rfl k) ?_
          show own_Go p.tables e below K (T92.setTop (mkF m 144 #[.val (.int q1), .val (.int q2), .val (.int q3), .val (.int (3 : Int32)), .val (.int a0), .val (.int a1), .val (.int a2), .val (.int b0), .val (.int b1), .val (.int b2), .val (.ref r90), .val (.ref r91), .val (.int (own_dom3 a0 a1 a2 b0 b1 b2)), .val (.int (0 : Int32)), .unset] []))
          refine own_by (fun t k => XS.iloadN X92.here hx rfl (hb hby at_144) rfl k) ?_
          show own_Go p.tables e below K (T92.setTop (mkF m 145 #[.val (.int q1), .val (.int q2), .val (.int q3), .val (.int (3 : Int32)), .val (.int a0), .val (.int a1), .val (.int a2), .val (.int b0), .val (.int b1), .val (.int b2), .val (.ref r90), .val (.ref r91), .val (.int (own_dom3 a0 a1 a2 b0 b1 b2)), .val (.int (0 : Int32)), .unset] [(.int (3 : Int32))]))
          refine own_by (fun t k => XS.iconst X92.here hx rfl (hb hby at_145) k) ?_
          show own_Go p.tables e below K (T92.setTop (mkF m 146 #[.val (.int q1), .val (.int q2), .val (.int q3), .val (.int (3 : Int32)), .val (.int a0), .val (.int a1), .val (.int a2), .val (.int b0), .val (.int b1), .val (.int b2), .val (.ref r90), .val (.ref r91), .val (.int (own_dom3 a0 a1 a2 b0 b1 b2)), .val (.int (0 : Int32)), .unset] [(.int (1 : Int32)), (.int (3 : Int32))]))
          have hc146 : ¬ ((3 : Int32) < (1 : Int32)) := by decide
          refine own_by (fun t k => XS.icmpNo X92.here hx rfl (hb hby at_146) rfl (flt hc146).1 k) ?_
          show own_Go p.tables e below K (T92.setTop (mkF m 149 #[.val (.int q1), .val (.int q2), .val (.int q3), .val (.int (3 : Int32)), .val (.int a0), .val (.int a1), .val (.int a2), .val (.int b0), .val (.int b1), .val (.int b2), .val (.ref r90), .val (.ref r91), .val (.int (own_dom3 a0 a1 a2 b0 b1 b2)), .val (.int (0 : Int32)), .unset] []))
          refine own_by (fun t k => XS.iload X92.here hx rfl (hb hby at_149) rfl k) ?_
          show own_Go p.tables e below K (T92.setTop (mkF m 151 #[.val (.int q1), .val (.int q2), .val (.int q3), .val (.int (3 : Int32)), .val (.int a0), .val (.int a1), .val (.int a2), .val (.int b0), .val (.int b1), .val (.int b2), .val (.ref r90), .val (.ref r91), .val (.int (own_dom3 a0 a1 a2 b0 b1 b2)), .val (.int (0 : Int32)), .unset] [(.int a0)]))
          refine own_by (fun t k => XS.iload X92.here hx rfl (hb hby at_151) rfl k) ?_
          show own_Go p.tables e below K (T92.setTop (mkF m 153 #[.val (.int q1), .val (.int q2), .val (.int q3), .val (.int (3 : Int32)), .val (.int a0), .val (.int a1), .val (.int a2), .val (.int b0), .val (.int b1), .val (.int b2), .val (.ref r90), .val (.ref r91), .val (.int (own_dom3 a0 a1 a2 b0 b1 b2)), .val (.int (0 : Int32)), .unset] [(.int b0), (.int a0)]))
          by_cases hc153 : a0 < b0
          · refine own_by (fun t k => XS.icmpYes X92.here hx rfl (pc0 := 153) (pc' := 180) rfl (hb hby at_153) rfl (tlt hc153).1 (by decide) (by decide) k) ?_
            show own_Go p.tables e below K (T92.setTop (mkF m 180 #[.val (.int q1), .val (.int q2), .val (.int q3), .val (.int (3 : Int32)), .val (.int a0), .val (.int a1), .val (.int a2), .val (.int b0), .val (.int b1), .val (.int b2), .val (.ref r90), .val (.ref r91), .val (.int (own_dom3 a0 a1 a2 b0 b1 b2)), .val (.int (0 : Int32)), .unset] []))
            refine own_by (fun t k => XS.iconst X92.here hx rfl (hb hby at_180) k) ?_
            show own_Go p.tables e below K (T92.setTop (mkF m 181 #[.val (.int q1), .val (.int q2), .val (.int q3), .val (.int (3 : Int32)), .val (.int a0), .val (.int a1), .val (.int a2), .val (.int b0), .val (.int b1), .val (.int b2), .val (.ref r90), .val (.ref r91), .val (.int (own_dom3 a0 a1 a2 b0 b1 b2)), .val (.int (0 : Int32)), .unset] [(.int (1 : Int32))]))
            refine own_by (fun t k => XS.goto X92.here hx rfl (pc0 := 181) (pc' := 185) rfl (hb hby at_181) (by decide) (by decide) k) ?_
            show own_Go p.tables e below K (T92.setTop (mkF m 185 #[.val (.int q1), .val (.int q2), .val (.int q3), .val (.int (3 : Int32)), .val (.int a0), .val (.int a1), .val (.int a2), .val (.int b0), .val (.int b1), .val (.int b2), .val (.ref r90), .val (.ref r91), .val (.int (own_dom3 a0 a1 a2 b0 b1 b2)), .val (.int (0 : Int32)), .unset] [(.int (1 : Int32))]))
            refine own_by (fun t k => XS.istore X92.here hx rfl (hb hby at_185) rfl (l' := #[.val (.int q1), .val (.int q2), .val (.int q3), .val (.int (3 : Int32)), .val (.int a0), .val (.int a1), .val (.int a2), .val (.int b0), .val (.int b1), .val (.int b2), .val (.ref r90), .val (.ref r91), .val (.int (own_dom3 a0 a1 a2 b0 b1 b2)), .val (.int (0 : Int32)), .val (.int (1 : Int32))]) rfl k) ?_
            show own_Go p.tables e below K (T92.setTop (mkF m 187 #[.val (.int q1), .val (.int q2), .val (.int q3), .val (.int (3 : Int32)), .val (.int a0), .val (.int a1), .val (.int a2), .val (.int b0), .val (.int b1), .val (.int b2), .val (.ref r90), .val (.ref r91), .val (.int (own_dom3 a0 a1 a2 b0 b1 b2)), .val (.int (0 : Int32)), .val (.int (1 : Int32))] []))
            refine own_by (fun t k => XS.iload X92.here hx rfl (hb hby at_187) rfl k) ?_
            show own_Go p.tables e below K (T92.setTop (mkF m 189 #[.val (.int q1), .val (.int q2), .val (.int q3), .val (.int (3 : Int32)), .val (.int a0), .val (.int a1), .val (.int a2), .val (.int b0), .val (.int b1), .val (.int b2), .val (.ref r90), .val (.ref r91), .val (.int (own_dom3 a0 a1 a2 b0 b1 b2)), .val (.int (0 : Int32)), .val (.int (1 : Int32))] [(.int (own_dom3 a0 a1 a2 b0 b1 b2))]))
            refine own_by (fun t k => XS.iload X92.here hx rfl (hb hby at_189) rfl k) ?_
            show own_Go p.tables e below K (T92.setTop (mkF m 191 #[.val (.int q1), .val (.int q2), .val (.int q3), .val (.int (3 : Int32)), .val (.int a0), .val (.int a1), .val (.int a2), .val (.int b0), .val (.int b1), .val (.int b2), .val (.ref r90), .val (.ref r91), .val (.int (own_dom3 a0 a1 a2 b0 b1 b2)), .val (.int (0 : Int32)), .val (.int (1 : Int32))] [(.int (0 : Int32)), (.int (own_dom3 a0 a1 a2 b0 b1 b2))]))
            have hc191 : (0 : Int32) = (0 : Int32) := by decide
            refine own_by (fun t k => XS.ifYes X92.here hx rfl (pc0 := 191) (pc' := 203) rfl (hb hby at_191) rfl ((if0 _ _).trans (teq hc191).1) (by decide) (by decide) k) ?_
            show own_Go p.tables e below K (T92.setTop (mkF m 203 #[.val (.int q1), .val (.int q2), .val (.int q3), .val (.int (3 : Int32)), .val (.int a0), .val (.int a1), .val (.int a2), .val (.int b0), .val (.int b1), .val (.int b2), .val (.ref r90), .val (.ref r91), .val (.int (own_dom3 a0 a1 a2 b0 b1 b2)), .val (.int (0 : Int32)), .val (.int (1 : Int32))] [(.int (own_dom3 a0 a1 a2 b0 b1 b2))]))
            refine own_by (fun t k => XS.iconst X92.here hx rfl (hb hby at_203) k) ?_
            show own_Go p.tables e below K (T92.setTop (mkF m 204 #[.val (.int q1), .val (.int q2), .val (.int q3), .val (.int (3 : Int32)), .val (.int a0), .val (.int a1), .val (.int a2), .val (.int b0), .val (.int b1), .val (.int b2), .val (.ref r90), .val (.ref r91), .val (.int (own_dom3 a0 a1 a2 b0 b1 b2)), .val (.int (0 : Int32)), .val (.int (1 : Int32))] [(.int (0 : Int32)), (.int (own_dom3 a0 a1 a2 b0 b1 b2))]))
            have hc204 : (own_dom3 a0 a1 a2 b0 b1 b2) = (0 : Int32) := by simp_all [own_dom3]
            refine own_by (fun t k => XS.icmpNo X92.here hx rfl (hb hby at_204) rfl (teq hc204).2 k) ?_
            show own_Go p.tables e below K (T92.setTop (mkF m 207 #[.val (.int q1), .val (.int q2), .val (.int q3), .val (.int (3 : Int32)), .val (.int a0), .val (.int a1), .val (.int a2), .val (.int b0), .val (.int b1), .val (.int b2), .val (.ref r90), .val (.ref r91), .val (.int (own_dom3 a0 a1 a2 b0 b1 b2)), .val (.int (0 : Int32)), .val (.int (1 : Int32))] []))
            refine own_by (fun t k => XS.iconst X92.here hx rfl (hb hby at_207) k) ?_
            show own_Go p.tables e below K (T92.setTop (mkF m 208 #[.val (.int q1), .val (.int q2), .val (.int q3), .val (.int (3 : Int32)), .val (.int a0), .val (.int a1), .val (.int a2), .val (.int b0), .val (.int b1), .val (.int b2), .val (.ref r90), .val (.ref r91), .val (.int (own_dom3 a0 a1 a2 b0 b1 b2)), .val (.int (0 : Int32)), .val (.int (1 : Int32))] [(.int (1 : Int32))]))
            refine own_by (fun t k => XS.goto X92.here hx rfl (pc0 := 208) (pc' := 212) rfl (hb hby at_208) (by decide) (by decide) k) ?_
            show own_Go p.tables e below K (T92.setTop (mkF m 212 #[.val (.int q1), .val (.int q2), .val (.int q3), .val (.int (3 : Int32)), .val (.int a0), .val (.int a1), .val (.int a2), .val (.int b0), .val (.int b1), .val (.int b2), .val (.ref r90), .val (.ref r91), .val (.int (own_dom3 a0 a1 a2 b0 b1 b2)), .val (.int (0 : Int32)), .val (.int (1 : Int32))] [(.int (1 : Int32))]))
            exact own_retZ X92 hx (t := .boolean) hret (by simp) (hb hby at_212) (hK (some (.int (1 : Int32))) X92 (fun h => by rw [hret] at h; cases h) (⟨rfl, N92⟩) (by decide) (by decide))
          · refine own_by (fun t k => XS.icmpNo X92.here hx rfl (hb hby at_153) rfl (flt hc153).1 k) ?_
            show own_Go p.tables e below K (T92.setTop (mkF m 156 #[.val (.int q1), .val (.int q2), .val (.int q3), .val (.int (3 : Int32)), .val (.int a0), .val (.int a1), .val (.int a2), .val (.int b0), .val (.int b1), .val (.int b2), .val (.ref r90), .val (.ref r91), .val (.int (own_dom3 a0 a1 a2 b0 b1 b2)), .val (.int (0 : Int32)), .unset] []))
            refine own_by (fun t k => XS.iloadN X92.here hx rfl (hb hby at_156) rfl k) ?_
            show own_Go p.tables e below K (T92.setTop (mkF m 157 #[.val (.int q1), .val (.int q2), .val (.int q3), .val (.int (3 : Int32)), .val (.int a0), .val (.int a1), .val (.int a2), .val (.int b0), .val (.int b1), .val (.int b2), .val (.ref r90), .val (.ref r91), .val (.int (own_dom3 a0 a1 a2 b0 b1 b2)), .val (.int (0 : Int32)), .unset] [(.int (3 : Int32))]))
            refine own_by (fun t k => XS.iconst X92.here hx rfl (hb hby at_157) k) ?_
            show own_Go p.tables e below K (T92.setTop (mkF m 158 #[.val (.int q1), .val (.int q2), .val (.int q3), .val (.int (3 : Int32)), .val (.int a0), .val (.int a1), .val (.int a2), .val (.int b0), .val (.int b1), .val (.int b2), .val (.ref r90), .val (.ref r91), .val (.int (own_dom3 a0 a1 a2 b0 b1 b2)), .val (.int (0 : Int32)), .unset] [(.int (2 : Int32)), (.int (3 : Int32))]))
            have hc158 : ¬ ((3 : Int32) < (2 : Int32)) := by decide
            refine own_by (fun t k => XS.icmpNo X92.here hx rfl (hb hby at_158) rfl (flt hc158).1 k) ?_
            show own_Go p.tables e below K (T92.setTop (mkF m 161 #[.val (.int q1), .val (.int q2), .val (.int q3), .val (.int (3 : Int32)), .val (.int a0), .val (.int a1), .val (.int a2), .val (.int b0), .val (.int b1), .val (.int b2), .val (.ref r90), .val (.ref r91), .val (.int (own_dom3 a0 a1 a2 b0 b1 b2)), .val (.int (0 : Int32)), .unset] []))
            refine own_by (fun t k => XS.iload X92.here hx rfl (hb hby at_161) rfl k) ?_
            show own_Go p.tables e below K (T92.setTop (mkF m 163 #[.val (.int q1), .val (.int q2), .val (.int q3), .val (.int (3 : Int32)), .val (.int a0), .val (.int a1), .val (.int a2), .val (.int b0), .val (.int b1), .val (.int b2), .val (.ref r90), .val (.ref r91), .val (.int (own_dom3 a0 a1 a2 b0 b1 b2)), .val (.int (0 : Int32)), .unset] [(.int a1)]))
            refine own_by (fun t k => XS.iload X92.here hx rfl (hb hby at_163) rfl k) ?_
            show own_Go p.tables e below K (T92.setTop (mkF m 165 #[.val (.int q1), .val (.int q2), .val (.int q3), .val (.int (3 : Int32)), .val (.int a0), .val (.int a1), .val (.int a2), .val (.int b0), .val (.int b1), .val (.int b2), .val (.ref r90), .val (.ref r91), .val (.int (own_dom3 a0 a1 a2 b0 b1 b2)), .val (.int (0 : Int32)), .unset] [(.int b1), (.int a1)]))
            by_cases hc165 : a1 < b1
            · refine own_by (fun t k => XS.icmpYes X92.here hx rfl (pc0 := 165) (pc' := 180) rfl (hb hby at_165) rfl (tlt hc165).1 (by decide) (by decide) k) ?_
              show own_Go p.tables e below K (T92.setTop (mkF m 180 #[.val (.int q1), .val (.int q2), .val (.int q3), .val (.int (3 : Int32)), .val (.int a0), .val (.int a1), .val (.int a2), .val (.int b0), .val (.int b1), .val (.int b2), .val (.ref r90), .val (.ref r91), .val (.int (own_dom3 a0 a1 a2 b0 b1 b2)), .val (.int (0 : Int32)), .unset] []))
              refine own_by (fun t k => XS.iconst X92.here hx rfl (hb hby at_180) k) ?_
              show own_Go p.tables e below K (T92.setTop (mkF m 181 #[.val (.int q1), .val (.int q2), .val (.int q3), .val (.int (3 : Int32)), .val (.int a0), .val (.int a1), .val (.int a2), .val (.int b0), .val (.int b1), .val (.int b2), .val (.ref r90), .val (.ref r91), .val (.int (own_dom3 a0 a1 a2 b0 b1 b2)), .val (.int (0 : Int32)), .unset] [(.int (1 : Int32))]))
              refine own_by (fun t k => XS.goto X92.here hx rfl (pc0 := 181) (pc' := 185) rfl (hb hby at_181) (by decide) (by decide) k) ?_
              show own_Go p.tables e below K (T92.setTop (mkF m 185 #[.val (.int q1), .val (.int q2), .val (.int q3), .val (.int (3 : Int32)), .val (.int a0), .val (.int a1), .val (.int a2), .val (.int b0), .val (.int b1), .val (.int b2), .val (.ref r90), .val (.ref r91), .val (.int (own_dom3 a0 a1 a2 b0 b1 b2)), .val (.int (0 : Int32)), .unset] [(.int (1 : Int32))]))
              refine own_by (fun t k => XS.istore X92.here hx rfl (hb hby at_185) rfl (l' := #[.val (.int q1), .val (.int q2), .val (.int q3), .val (.int (3 : Int32)), .val (.int a0), .val (.int a1), .val (.int a2), .val (.int b0), .val (.int b1), .val (.int b2), .val (.ref r90), .val (.ref r91), .val (.int (own_dom3 a0 a1 a2 b0 b1 b2)), .val (.int (0 : Int32)), .val (.int (1 : Int32))]) rfl k) ?_
              show own_Go p.tables e below K (T92.setTop (mkF m 187 #[.val (.int q1), .val (.int q2), .val (.int q3), .val (.int (3 : Int32)), .val (.int a0), .val (.int a1), .val (.int a2), .val (.int b0), .val (.int b1), .val (.int b2), .val (.ref r90), .val (.ref r91), .val (.int (own_dom3 a0 a1 a2 b0 b1 b2)), .val (.int (0 : Int32)), .val (.int (1 : Int32))] []))
              refine own_by (fun t k => XS.iload X92.here hx rfl (hb hby at_187) rfl k) ?_
              show own_Go p.tables e below K (T92.setTop (mkF m 189 #[.val (.int q1), .val (.int q2), .val (.int q3), .val (.int (3 : Int32)), .val (.int a0), .val (.int a1), .val (.int a2), .val (.int b0), .val (.int b1), .val (.int b2), .val (.ref r90), .val (.ref r91), .val (.int (own_dom3 a0 a1 a2 b0 b1 b2)), .val (.int (0 : Int32)), .val (.int (1 : Int32))] [(.int (own_dom3 a0 a1 a2 b0 b1 b2))]))
              refine own_by (fun t k => XS.iload X92.here hx rfl (hb hby at_189) rfl k) ?_
              show own_Go p.tables e below K (T92.setTop (mkF m 191 #[.val (.int q1), .val (.int q2), .val (.int q3), .val (.int (3 : Int32)), .val (.int a0), .val (.int a1), .val (.int a2), .val (.int b0), .val (.int b1), .val (.int b2), .val (.ref r90), .val (.ref r91), .val (.int (own_dom3 a0 a1 a2 b0 b1 b2)), .val (.int (0 : Int32)), .val (.int (1 : Int32))] [(.int (0 : Int32)), (.int (own_dom3 a0 a1 a2 b0 b1 b2))]))
              have hc191 : (0 : Int32) = (0 : Int32) := by decide
              refine own_by (fun t k => XS.ifYes X92.here hx rfl (pc0 := 191) (pc' := 203) rfl (hb hby at_191) rfl ((if0 _ _).trans (teq hc191).1) (by decide) (by decide) k) ?_
              show own_Go p.tables e below K (T92.setTop (mkF m 203 #[.val (.int q1), .val (.int q2), .val (.int q3), .val (.int (3 : Int32)), .val (.int a0), .val (.int a1), .val (.int a2), .val (.int b0), .val (.int b1), .val (.int b2), .val (.ref r90), .val (.ref r91), .val (.int (own_dom3 a0 a1 a2 b0 b1 b2)), .val (.int (0 : Int32)), .val (.int (1 : Int32))] [(.int (own_dom3 a0 a1 a2 b0 b1 b2))]))
              refine own_by (fun t k => XS.iconst X92.here hx rfl (hb hby at_203) k) ?_
              show own_Go p.tables e below K (T92.setTop (mkF m 204 #[.val (.int q1), .val (.int q2), .val (.int q3), .val (.int (3 : Int32)), .val (.int a0), .val (.int a1), .val (.int a2), .val (.int b0), .val (.int b1), .val (.int b2), .val (.ref r90), .val (.ref r91), .val (.int (own_dom3 a0 a1 a2 b0 b1 b2)), .val (.int (0 : Int32)), .val (.int (1 : Int32))] [(.int (0 : Int32)), (.int (own_dom3 a0 a1 a2 b0 b1 b2))]))
              have hc204 : (own_dom3 a0 a1 a2 b0 b1 b2) = (0 : Int32) := by simp_all [own_dom3]
              refine own_by (fun t k => XS.icmpNo X92.here hx rfl (hb hby at_204) rfl (teq hc204).2 k) ?_
              show own_Go p.tables e below K (T92.setTop (mkF m 207 #[.val (.int q1), .val (.int q2), .val (.int q3), .val (.int (3 : Int32)), .val (.int a0), .val (.int a1), .val (.int a2), .val (.int b0), .val (.int b1), .val (.int b2), .val (.ref r90), .val (.ref r91), .val (.int (own_dom3 a0 a1 a2 b0 b1 b2)), .val (.int (0 : Int32)), .val (.int (1 : Int32))] []))
              refine own_by (fun t k => XS.iconst X92.here hx rfl (hb hby at_207) k) ?_
              show own_Go p.tables e below K (T92.setTop (mkF m 208 #[.val (.int q1), .val (.int q2), .val (.int q3), .val (.int (3 : Int32)), .val (.int a0), .val (.int a1), .val (.int a2), .val (.int b0), .val (.int b1), .val (.int b2), .val (.ref r90), .val (.ref r91), .val (.int (own_dom3 a0 a1 a2 b0 b1 b2)), .val (.int (0 : Int32)), .val (.int (1 : Int32))] [(.int (1 : Int32))]))
              refine own_by (fun t k => XS.goto X92.here hx rfl (pc0 := 208) (pc' := 212) rfl (hb hby at_208) (by decide) (by decide) k) ?_
              show own_Go p.tables e below K (T92.setTop (mkF m 212 #[.val (.int q1), .val (.int q2), .val (.int q3), .val (.int (3 : Int32)), .val (.int a0), .val (.int a1), .val (.int a2), .val (.int b0), .val (.int b1), .val (.int b2), .val (.ref r90), .val (.ref r91), .val (.int (own_dom3 a0 a1 a2 b0 b1 b2)), .val (.int (0 : Int32)), .val (.int (1 : Int32))] [(.int (1 : Int32))]))
              exact own_retZ X92 hx (t := .boolean) hret (by simp) (hb hby at_212) (hK (some (.int (1 : Int32))) X92 (fun h => by rw [hret] at h; cases h) (⟨rfl, N92⟩) (by decide) (by decide))
            · refine own_by (fun t k => XS.icmpNo X92.here hx rfl (hb hby at_165) rfl (flt hc165).1 k) ?_
              show own_Go p.tables e below K (T92.setTop (mkF m 168 #[.val (.int q1), .val (.int q2), .val (.int q3), .val (.int (3 : Int32)), .val (.int a0), .val (.int a1), .val (.int a2), .val (.int b0), .val (.int b1), .val (.int b2), .val (.ref r90), .val (.ref r91), .val (.int (own_dom3 a0 a1 a2 b0 b1 b2)), .val (.int (0 : Int32)), .unset] []))
              refine own_by (fun t k => XS.iloadN X92.here hx rfl (hb hby at_168) rfl k) ?_
              show own_Go p.tables e below K (T92.setTop (mkF m 169 #[.val (.int q1), .val (.int q2), .val (.int q3), .val (.int (3 : Int32)), .val (.int a0), .val (.int a1), .val (.int a2), .val (.int b0), .val (.int b1), .val (.int b2), .val (.ref r90), .val (.ref r91), .val (.int (own_dom3 a0 a1 a2 b0 b1 b2)), .val (.int (0 : Int32)), .unset] [(.int (3 : Int32))]))
              refine own_by (fun t k => XS.iconst X92.here hx rfl (hb hby at_169) k) ?_
              show own_Go p.tables e below K (T92.setTop (mkF m 170 #[.val (.int q1), .val (.int q2), .val (.int q3), .val (.int (3 : Int32)), .val (.int a0), .val (.int a1), .val (.int a2), .val (.int b0), .val (.int b1), .val (.int b2), .val (.ref r90), .val (.ref r91), .val (.int (own_dom3 a0 a1 a2 b0 b1 b2)), .val (.int (0 : Int32)), .unset] [(.int (3 : Int32)), (.int (3 : Int32))]))
              have hc170 : ¬ ((3 : Int32) < (3 : Int32)) := by decide
              refine own_by (fun t k => XS.icmpNo X92.here hx rfl (hb hby at_170) rfl (flt hc170).1 k) ?_
              show own_Go p.tables e below K (T92.setTop (mkF m 173 #[.val (.int q1), .val (.int q2), .val (.int q3), .val (.int (3 : Int32)), .val (.int a0), .val (.int a1), .val (.int a2), .val (.int b0), .val (.int b1), .val (.int b2), .val (.ref r90), .val (.ref r91), .val (.int (own_dom3 a0 a1 a2 b0 b1 b2)), .val (.int (0 : Int32)), .unset] []))
              refine own_by (fun t k => XS.iload X92.here hx rfl (hb hby at_173) rfl k) ?_
              show own_Go p.tables e below K (T92.setTop (mkF m 175 #[.val (.int q1), .val (.int q2), .val (.int q3), .val (.int (3 : Int32)), .val (.int a0), .val (.int a1), .val (.int a2), .val (.int b0), .val (.int b1), .val (.int b2), .val (.ref r90), .val (.ref r91), .val (.int (own_dom3 a0 a1 a2 b0 b1 b2)), .val (.int (0 : Int32)), .unset] [(.int a2)]))
              refine own_by (fun t k => XS.iload X92.here hx rfl (hb hby at_175) rfl k) ?_
              show own_Go p.tables e below K (T92.setTop (mkF m 177 #[.val (.int q1), .val (.int q2), .val (.int q3), .val (.int (3 : Int32)), .val (.int a0), .val (.int a1), .val (.int a2), .val (.int b0), .val (.int b1), .val (.int b2), .val (.ref r90), .val (.ref r91), .val (.int (own_dom3 a0 a1 a2 b0 b1 b2)), .val (.int (0 : Int32)), .unset] [(.int b2), (.int a2)]))
              by_cases hc177 : a2 < b2
              · refine own_by (fun t k => XS.icmpNo X92.here hx rfl (hb hby at_177) rfl (tlt hc177).2.1 k) ?_
                show own_Go p.tables e below K (T92.setTop (mkF m 180 #[.val (.int q1), .val (.int q2), .val (.int q3), .val (.int (3 : Int32)), .val (.int a0), .val (.int a1), .val (.int a2), .val (.int b0), .val (.int b1), .val (.int b2), .val (.ref r90), .val (.ref r91), .val (.int (own_dom3 a0 a1 a2 b0 b1 b2)), .val (.int (0 : Int32)), .unset] []))
                refine own_by (fun t k => XS.iconst X92.here hx rfl (hb hby at_180) k) ?_
                show own_Go p.tables e below K (T92.setTop (mkF m 181 #[.val (.int q1), .val (.int q2), .val (.int q3), .val (.int (3 : Int32)), .val (.int a0), .val (.int a1), .val (.int a2), .val (.int b0), .val (.int b1), .val (.int b2), .val (.ref r90), .val (.ref r91), .val (.int (own_dom3 a0 a1 a2 b0 b1 b2)), .val (.int (0 : Int32)), .unset] [(.int (1 : Int32))]))
                refine own_by (fun t k => XS.goto X92.here hx rfl (pc0 := 181) (pc' := 185) rfl (hb hby at_181) (by decide) (by decide) k) ?_
                show own_Go p.tables e below K (T92.setTop (mkF m 185 #[.val (.int q1), .val (.int q2), .val (.int q3), .val (.int (3 : Int32)), .val (.int a0), .val (.int a1), .val (.int a2), .val (.int b0), .val (.int b1), .val (.int b2), .val (.ref r90), .val (.ref r91), .val (.int (own_dom3 a0 a1 a2 b0 b1 b2)), .val (.int (0 : Int32)), .unset] [(.int (1 : Int32))]))
                refine own_by (fun t k => XS.istore X92.here hx rfl (hb hby at_185) rfl (l' := #[.val (.int q1), .val (.int q2), .val (.int q3), .val (.int (3 : Int32)), .val (.int a0), .val (.int a1), .val (.int a2), .val (.int b0), .val (.int b1), .val (.int b2), .val (.ref r90), .val (.ref r91), .val (.int (own_dom3 a0 a1 a2 b0 b1 b2)), .val (.int (0 : Int32)), .val (.int (1 : Int32))]) rfl k) ?_
                show own_Go p.tables e below K (T92.setTop (mkF m 187 #[.val (.int q1), .val (.int q2), .val (.int q3), .val (.int (3 : Int32)), .val (.int a0), .val (.int a1), .val (.int a2), .val (.int b0), .val (.int b1), .val (.int b2), .val (.ref r90), .val (.ref r91), .val (.int (own_dom3 a0 a1 a2 b0 b1 b2)), .val (.int (0 : Int32)), .val (.int (1 : Int32))] []))
                refine own_by (fun t k => XS.iload X92.here hx rfl (hb hby at_187) rfl k) ?_
                show own_Go p.tables e below K (T92.setTop (mkF m 189 #[.val (.int q1), .val (.int q2), .val (.int q3), .val (.int (3 : Int32)), .val (.int a0), .val (.int a1), .val (.int a2), .val (.int b0), .val (.int b1), .val (.int b2), .val (.ref r90), .val (.ref r91), .val (.int (own_dom3 a0 a1 a2 b0 b1 b2)), .val (.int (0 : Int32)), .val (.int (1 : Int32))] [(.int (own_dom3 a0 a1 a2 b0 b1 b2))]))
                refine own_by (fun t k => XS.iload X92.here hx rfl (hb hby at_189) rfl k) ?_
                show own_Go p.tables e below K (T92.setTop (mkF m 191 #[.val (.int q1), .val (.int q2), .val (.int q3), .val (.int (3 : Int32)), .val (.int a0), .val (.int a1), .val (.int a2), .val (.int b0), .val (.int b1), .val (.int b2), .val (.ref r90), .val (.ref r91), .val (.int (own_dom3 a0 a1 a2 b0 b1 b2)), .val (.int (0 : Int32)), .val (.int (1 : Int32))] [(.int (0 : Int32)), (.int (own_dom3 a0 a1 a2 b0 b1 b2))]))
                have hc191 : (0 : Int32) = (0 : Int32) := by decide
                refine own_by (fun t k => XS.ifYes X92.here hx rfl (pc0 := 191) (pc' := 203) rfl (hb hby at_191) rfl ((if0 _ _).trans (teq hc191).1) (by decide) (by decide) k) ?_
                show own_Go p.tables e below K (T92.setTop (mkF m 203 #[.val (.int q1), .val (.int q2), .val (.int q3), .val (.int (3 : Int32)), .val (.int a0), .val (.int a1), .val (.int a2), .val (.int b0), .val (.int b1), .val (.int b2), .val (.ref r90), .val (.ref r91), .val (.int (own_dom3 a0 a1 a2 b0 b1 b2)), .val (.int (0 : Int32)), .val (.int (1 : Int32))] [(.int (own_dom3 a0 a1 a2 b0 b1 b2))]))
                refine own_by (fun t k => XS.iconst X92.here hx rfl (hb hby at_203) k) ?_
                show own_Go p.tables e below K (T92.setTop (mkF m 204 #[.val (.int q1), .val (.int q2), .val (.int q3), .val (.int (3 : Int32)), .val (.int a0), .val (.int a1), .val (.int a2), .val (.int b0), .val (.int b1), .val (.int b2), .val (.ref r90), .val (.ref r91), .val (.int (own_dom3 a0 a1 a2 b0 b1 b2)), .val (.int (0 : Int32)), .val (.int (1 : Int32))] [(.int (0 : Int32)), (.int (own_dom3 a0 a1 a2 b0 b1 b2))]))
                have hc204 : (own_dom3 a0 a1 a2 b0 b1 b2) = (0 : Int32) := by simp_all [own_dom3]
                refine own_by (fun t k => XS.icmpNo X92.here hx rfl (hb hby at_204) rfl (teq hc204).2 k) ?_
                show own_Go p.tables e below K (T92.setTop (mkF m 207 #[.val (.int q1), .val (.int q2), .val (.int q3), .val (.int (3 : Int32)), .val (.int a0), .val (.int a1), .val (.int a2), .val (.int b0), .val (.int b1), .val (.int b2), .val (.ref r90), .val (.ref r91), .val (.int (own_dom3 a0 a1 a2 b0 b1 b2)), .val (.int (0 : Int32)), .val (.int (1 : Int32))] []))
                refine own_by (fun t k => XS.iconst X92.here hx rfl (hb hby at_207) k) ?_
                show own_Go p.tables e below K (T92.setTop (mkF m 208 #[.val (.int q1), .val (.int q2), .val (.int q3), .val (.int (3 : Int32)), .val (.int a0), .val (.int a1), .val (.int a2), .val (.int b0), .val (.int b1), .val (.int b2), .val (.ref r90), .val (.ref r91), .val (.int (own_dom3 a0 a1 a2 b0 b1 b2)), .val (.int (0 : Int32)), .val (.int (1 : Int32))] [(.int (1 : Int32))]))
                refine own_by (fun t k => XS.goto X92.here hx rfl (pc0 := 208) (pc' := 212) rfl (hb hby at_208) (by decide) (by decide) k) ?_
                show own_Go p.tables e below K (T92.setTop (mkF m 212 #[.val (.int q1), .val (.int q2), .val (.int q3), .val (.int (3 : Int32)), .val (.int a0), .val (.int a1), .val (.int a2), .val (.int b0), .val (.int b1), .val (.int b2), .val (.ref r90), .val (.ref r91), .val (.int (own_dom3 a0 a1 a2 b0 b1 b2)), .val (.int (0 : Int32)), .val (.int (1 : Int32))] [(.int (1 : Int32))]))
                exact own_retZ X92 hx (t := .boolean) hret (by simp) (hb hby at_212) (hK (some (.int (1 : Int32))) X92 (fun h => by rw [hret] at h; cases h) (⟨rfl, N92⟩) (by decide) (by decide))
              · refine own_by (fun t k => XS.icmpYes X92.here hx rfl (pc0 := 177) (pc' := 184) rfl (hb hby at_177) rfl (flt hc177).2.1 (by decide) (by decide) k) ?_
                show own_Go p.tables e below K (T92.setTop (mkF m 184 #[.val (.int q1), .val (.int q2), .val (.int q3), .val (.int (3 : Int32)), .val (.int a0), .val (.int a1), .val (.int a2), .val (.int b0), .val (.int b1), .val (.int b2), .val (.ref r90), .val (.ref r91), .val (.int (own_dom3 a0 a1 a2 b0 b1 b2)), .val (.int (0 : Int32)), .unset] []))
                refine own_by (fun t k => XS.iconst X92.here hx rfl (hb hby at_184) k) ?_
                show own_Go p.tables e below K (T92.setTop (mkF m 185 #[.val (.int q1), .val (.int q2), .val (.int q3), .val (.int (3 : Int32)), .val (.int a0), .val (.int a1), .val (.int a2), .val (.int b0), .val (.int b1), .val (.int b2), .val (.ref r90), .val (.ref r91), .val (.int (own_dom3 a0 a1 a2 b0 b1 b2)), .val (.int (0 : Int32)), .unset] [(.int (0 : Int32))]))
                refine own_by (fun t k => XS.istore X92.here hx rfl (hb hby at_185) rfl (l' := #[.val (.int q1), .val (.int q2), .val (.int q3), .val (.int (3 : Int32)), .val (.int a0), .val (.int a1), .val (.int a2), .val (.int b0), .val (.int b1), .val (.int b2), .val (.ref r90), .val (.ref r91), .val (.int (own_dom3 a0 a1 a2 b0 b1 b2)), .val (.int (0 : Int32)), .val (.int (0 : Int32))]) rfl k) ?_
                show own_Go p.tables e below K (T92.setTop (mkF m 187 #[.val (.int q1), .val (.int q2), .val (.int q3), .val (.int (3 : Int32)), .val (.int a0), .val (.int a1), .val (.int a2), .val (.int b0), .val (.int b1), .val (.int b2), .val (.ref r90), .val (.ref r91), .val (.int (own_dom3 a0 a1 a2 b0 b1 b2)), .val (.int (0 : Int32)), .val (.int (0 : Int32))] []))
                refine own_by (fun t k => XS.iload X92.here hx rfl (hb hby at_187) rfl k) ?_
                show own_Go p.tables e below K (T92.setTop (mkF m 189 #[.val (.int q1), .val (.int q2), .val (.int q3), .val (.int (3 : Int32)), .val (.int a0), .val (.int a1), .val (.int a2), .val (.int b0), .val (.int b1), .val (.int b2), .val (.ref r90), .val (.ref r91), .val (.int (own_dom3 a0 a1 a2 b0 b1 b2)), .val (.int (0 : Int32)), .val (.int (0 : Int32))] [(.int (own_dom3 a0 a1 a2 b0 b1 b2))]))
                refine own_by (fun t k => XS.iload X92.here hx rfl (hb hby at_189) rfl k) ?_
                show own_Go p.tables e below K (T92.setTop (mkF m 191 #[.val (.int q1), .val (.int q2), .val (.int q3), .val (.int (3 : Int32)), .val (.int a0), .val (.int a1), .val (.int a2), .val (.int b0), .val (.int b1), .val (.int b2), .val (.ref r90), .val (.ref r91), .val (.int (own_dom3 a0 a1 a2 b0 b1 b2)), .val (.int (0 : Int32)), .val (.int (0 : Int32))] [(.int (0 : Int32)), (.int (own_dom3 a0 a1 a2 b0 b1 b2))]))
                have hc191 : (0 : Int32) = (0 : Int32) := by decide
                refine own_by (fun t k => XS.ifYes X92.here hx rfl (pc0 := 191) (pc' := 203) rfl (hb hby at_191) rfl ((if0 _ _).trans (teq hc191).1) (by decide) (by decide) k) ?_
                show own_Go p.tables e below K (T92.setTop (mkF m 203 #[.val (.int q1), .val (.int q2), .val (.int q3), .val (.int (3 : Int32)), .val (.int a0), .val (.int a1), .val (.int a2), .val (.int b0), .val (.int b1), .val (.int b2), .val (.ref r90), .val (.ref r91), .val (.int (own_dom3 a0 a1 a2 b0 b1 b2)), .val (.int (0 : Int32)), .val (.int (0 : Int32))] [(.int (own_dom3 a0 a1 a2 b0 b1 b2))]))
                refine own_by (fun t k => XS.iconst X92.here hx rfl (hb hby at_203) k) ?_
                show own_Go p.tables e below K (T92.setTop (mkF m 204 #[.val (.int q1), .val (.int q2), .val (.int q3), .val (.int (3 : Int32)), .val (.int a0), .val (.int a1), .val (.int a2), .val (.int b0), .val (.int b1), .val (.int b2), .val (.ref r90), .val (.ref r91), .val (.int (own_dom3 a0 a1 a2 b0 b1 b2)), .val (.int (0 : Int32)), .val (.int (0 : Int32))] [(.int (0 : Int32)), (.int (own_dom3 a0 a1 a2 b0 b1 b2))]))
                have hc204 : (own_dom3 a0 a1 a2 b0 b1 b2) = (0 : Int32) := by simp_all [own_dom3]
                refine own_by (fun t k => XS.icmpNo X92.here hx rfl (hb hby at_204) rfl (teq hc204).2 k) ?_
                show own_Go p.tables e below K (T92.setTop (mkF m 207 #[.val (.int q1), .val (.int q2), .val (.int q3), .val (.int (3 : Int32)), .val (.int a0), .val (.int a1), .val (.int a2), .val (.int b0), .val (.int b1), .val (.int b2), .val (.ref r90), .val (.ref r91), .val (.int (own_dom3 a0 a1 a2 b0 b1 b2)), .val (.int (0 : Int32)), .val (.int (0 : Int32))] []))
                refine own_by (fun t k => XS.iconst X92.here hx rfl (hb hby at_207) k) ?_
                show own_Go p.tables e below K (T92.setTop (mkF m 208 #[.val (.int q1), .val (.int q2), .val (.int q3), .val (.int (3 : Int32)), .val (.int a0), .val (.int a1), .val (.int a2), .val (.int b0), .val (.int b1), .val (.int b2), .val (.ref r90), .val (.ref r91), .val (.int (own_dom3 a0 a1 a2 b0 b1 b2)), .val (.int (0 : Int32)), .val (.int (0 : Int32))] [(.int (1 : Int32))]))
                refine own_by (fun t k => XS.goto X92.here hx rfl (pc0 := 208) (pc' := 212) rfl (hb hby at_208) (by decide) (by decide) k) ?_
                show own_Go p.tables e below K (T92.setTop (mkF m 212 #[.val (.int q1), .val (.int q2), .val (.int q3), .val (.int (3 : Int32)), .val (.int a0), .val (.int a1), .val (.int a2), .val (.int b0), .val (.int b1), .val (.int b2), .val (.ref r90), .val (.ref r91), .val (.int (own_dom3 a0 a1 a2 b0 b1 b2)), .val (.int (0 : Int32)), .val (.int (0 : Int32))] [(.int (1 : Int32))]))
                exact own_retZ X92 hx (t := .boolean) hret (by simp) (hb hby at_212) (hK (some (.int (1 : Int32))) X92 (fun h => by rw [hret] at h; cases h) (⟨rfl, N92⟩) (by decide) (by decide))
        · refine own_by (fun t k => XS.icmpNo X92.here hx rfl (hb hby at_122) rfl (flt hc122).2.2.1 k) ?_
          show own_Go p.tables e below K (T92.setTop (mkF m 125 #[.val (.int q1), .val (.int q2), .val (.int q3), .val (.int (3 : Int32)), .val (.int a0), .val (.int a1), .val (.int a2), .val (.int b0), .val (.int b1), .val (.int b2), .val (.ref r90), .val (.ref r91), .val (.int (own_dom3 a0 a1 a2 b0 b1 b2)), .unset, .unset] []))
          refine own_by (fun t k => XS.iloadN X92.here hx rfl (hb hby at_125) rfl k) ?_
          show own_Go p.tables e below K (T92.setTop (mkF m 126 #[.val (.int q1), .val (.int q2), .val (.int q3), .val (.int (3 : Int32)), .val (.int a0), .val (.int a1), .val (.int a2), .val (.int b0), .val (.int b1), .val (.int b2), .val (.ref r90), .val (.ref r91), .val (.int (own_dom3 a0 a1 a2 b0 b1 b2)), .unset, .unset] [(.int (3 : Int32))]))
          refine own_by (fun t k => XS.iconst X92.here hx rfl (hb hby at_126) k) ?_
          show own_Go p.tables e below K (T92.setTop (mkF m 127 #[.val (.int q1), .val (.int q2), .val (.int q3), .val (.int (3 : Int32)), .val (.int a0), .val (.int a1), .val (.int a2), .val (.int b0), .val (.int b1), .val (.int b2), .val (.ref r90), .val (.ref r91), .val (.int (own_dom3 a0 a1 a2 b0 b1 b2)), .unset, .unset] [(.int (3 : Int32)), (.int (3 : Int32))]))
          have hc127 : ¬ ((3 : Int32) < (3 : Int32)) := by decide
          refine own_by (fun t k => XS.icmpNo X92.here hx rfl (hb hby at_127) rfl (flt hc127).1 k) ?_
          show own_Go p.tables e below K (T92.setTop (mkF m 130 #[.val (.int q1), .val (.int q2), .val (.int q3), .val (.int (3 : Int32)), .val (.int a0), .val (.int a1), .val (.int a2), .val (.int b0), .val (.int b1), .val (.int b2), .val (.ref r90), .val (.ref r91), .val (.int (own_dom3 a0 a1 a2 b0 b1 b2)), .unset, .unset] []))
          refine own_by (fun t k => XS.iload X92.here hx rfl (hb hby at_130) rfl k) ?_
          show own_Go p.tables e below K (T92.setTop (mkF m 132 #[.val (.int q1), .val (.int q2), .val (.int q3), .val (.int (3 : Int32)), .val (.int a0), .val (.int a1), .val (.int a2), .val (.int b0), .val (.int b1), .val (.int b2), .val (.ref r90), .val (.ref r91), .val (.int (own_dom3 a0 a1 a2 b0 b1 b2)), .unset, .unset] [(.int a2)]))
          refine own_by (fun t k => XS.iload X92.here hx rfl (hb hby at_132) rfl k) ?_
          show own_Go p.tables e below K (T92.setTop (mkF m 134 #[.val (.int q1), .val (.int q2), .val (.int q3), .val (.int (3 : Int32)), .val (.int a0), .val (.int a1), .val (.int a2), .val (.int b0), .val (.int b1), .val (.int b2), .val (.ref r90), .val (.ref r91), .val (.int (own_dom3 a0 a1 a2 b0 b1 b2)), .unset, .unset] [(.int b2), (.int a2)]))
          by_cases hc134 : b2 < a2
          · refine own_by (fun t k => XS.icmpYes X92.here hx rfl (pc0 := 134) (pc' := 141) rfl (hb hby at_134) rfl (tlt hc134).2.2.1 (by decide) (by decide) k) ?_
            show own_Go p.tables e below K (T92.setTop (mkF m 141 #[.val (.int q1), .val (.int q2), .val (.int q3), .val (.int (3 : Int32)), .val (.int a0), .val (.int a1), .val (.int a2), .val (.int b0), .val (.int b1), .val (.int b2), .val (.ref r90), .val (.ref r91), .val (.int (own_dom3 a0 a1 a2 b0 b1 b2)), .unset, .unset] []))
            refine own_by (fun t k => XS.iconst X92.here hx rfl (hb hby at_141) k) ?_
            show own_Go p.tables e below K (T92.setTop (mkF m 142 #[.val (.int q1), .val (.int q2), .val (.int q3), .val (.int (3 : Int32)), .val (.int a0), .val (.int a1), .val (.int a2), .val (.int b0), .val (.int b1), .val (.int b2), .val (.ref r90), .val (.ref r91), .val (.int (own_dom3 a0 a1 a2 b0 b1 b2)), .unset, .unset] [(.int (0 : Int32))]))
            refine own_by (fun t k => XS.istore X92.here hx rfl (hb hby at_142) rfl (l' := #[.val (.int q1), .val (.int q2), .val (.int q3), .val (.int (3 : Int32)), .val (.int a0), .val (.int a1), .val (.int a2), .val (.int b0), .val (.int b1), .val (.int b2), .val (.ref r90), .val (.ref r91), .val (.int (own_dom3 a0 a1 a2 b0 b1 b2)), .val (.int (0 : Int32)), .unset]) rfl k) ?_
            show own_Go p.tables e below K (T92.setTop (mkF m 144 #[.val (.int q1), .val (.int q2), .val (.int q3), .val (.int (3 : Int32)), .val (.int a0), .val (.int a1), .val (.int a2), .val (.int b0), .val (.int b1), .val (.int b2), .val (.ref r90), .val (.ref r91), .val (.int (own_dom3 a0 a1 a2 b0 b1 b2)), .val (.int (0 : Int32)), .unset] []))
            refine own_by (fun t k => XS.iloadN X92.here hx rfl (hb hby at_144) rfl k) ?_
            show own_Go p.tables e below K (T92.setTop (mkF m 145 #[.val (.int q1), .val (.int q2), .val (.int q3), .val (.int (3 : Int32)), .val (.int a0), .val (.int a1), .val (.int a2), .val (.int b0), .val (.int b1), .val (.int b2), .val (.ref r90), .val (.ref r91), .val (.int (own_dom3 a0 a1 a2 b0 b1 b2)), .val (.int (0 : Int32)), .unset] [(.int (3 : Int32))]))
            refine own_by (fun t k => XS.iconst X92.here hx rfl (hb hby at_145) k) ?_
            show own_Go p.tables e below K (T92.setTop (mkF m 146 #[.val (.int q1), .val (.int q2), .val (.int q3), .val (.int (3 : Int32)), .val (.int a0), .val (.int a1), .val (.int a2), .val (.int b0), .val (.int b1), .val (.int b2), .val (.ref r90), .val (.ref r91), .val (.int (own_dom3 a0 a1 a2 b0 b1 b2)), .val (.int (0 : Int32)), .unset] [(.int (1 : Int32)), (.int (3 : Int32))]))
            have hc146 : ¬ ((3 : Int32) < (1 : Int32)) := by decide
            refine own_by (fun t k => XS.icmpNo X92.here hx rfl (hb hby at_146) rfl (flt hc146).1 k) ?_
            show own_Go p.tables e below K (T92.setTop (mkF m 149 #[.val (.int q1), .val (.int q2), .val (.int q3), .val (.int (3 : Int32)), .val (.int a0), .val (.int a1), .val (.int a2), .val (.int b0), .val (.int b1), .val (.int b2), .val (.ref r90), .val (.ref r91), .val (.int (own_dom3 a0 a1 a2 b0 b1 b2)), .val (.int (0 : Int32)), .unset] []))
            refine own_by (fun t k => XS.iload X92.here hx rfl (hb hby at_149) rfl k) ?_
            show own_Go p.tables e below K (T92.setTop (mkF m 151 #[.val (.int q1), .val (.int q2), .val (.int q3), .val (.int (3 : Int32)), .val (.int a0), .val (.int a1), .val (.int a2), .val (.int b0), .val (.int b1), .val (.int b2), .val (.ref r90), .val (.ref r91), .val (.int (own_dom3 a0 a1 a2 b0 b1 b2)), .val (.int (0 : Int32)), .unset] [(.int a0)]))
            refine own_by (fun t k => XS.iload X92.here hx rfl (hb hby at_151) rfl k) ?_
            show own_Go p.tables e below K (T92.setTop (mkF m 153 #[.val (.int q1), .val (.int q2), .val (.int q3), .val (.int (3 : Int32)), .val (.int a0), .val (.int a1), .val (.int a2), .val (.int b0), .val (.int b1), .val (.int b2), .val (.ref r90), .val (.ref r91), .val (.int (own_dom3 a0 a1 a2 b0 b1 b2)), .val (.int (0 : Int32)), .unset] [(.int b0), (.int a0)]))
            by_cases hc153 : a0 < b0
            · refine own_by (fun t k => XS.icmpYes X92.here hx rfl (pc0 := 153) (pc' := 180) rfl (hb hby at_153) rfl (tlt hc153).1 (by decide) (by decide) k) ?_
              show own_Go p.tables e below K (T92.setTop (mkF m 180 #[.val (.int q1), .val (.int q2), .val (.int q3), .val (.int (3 : Int32)), .val (.int a0), .val (.int a1), .val (.int a2), .val (.int b0), .val (.int b1), .val (.int b2), .val (.ref r90), .val (.ref r91), .val (.int (own_dom3 a0 a1 a2 b0 b1 b2)), .val (.int (0 : Int32)), .unset] []))
              refine own_by (fun t k => XS.iconst X92.here hx rfl (hb hby at_180) k) ?_
              show own_Go p.tables e below K (T92.setTop (mkF m 181 #[.val (.int q1), .val (.int q2), .val (.int q3), .val (.int (3 : Int32)), .val (.int a0), .val (.int a1), .val (.int a2), .val (.int b0), .val (.int b1), .val (.int b2), .val (.ref r90), .val (.ref r91), .val (.int (own_dom3 a0 a1 a2 b0 b1 b2)), .val (.int (0 : Int32)), .unset] [(.int (1 : Int32))]))
              refine own_by (fun t k => XS.goto X92.here hx rfl (pc0 := 181) (pc' := 185) rfl (hb hby at_181) (by decide) (by decide) k) ?_
              show own_Go p.tables e below K (T92.setTop (mkF m 185 #[.val (.int q1), .val (.int q2), .val (.int q3), .val (.int (3 : Int32)), .val (.int a0), .val (.int a1), .val (.int a2), .val (.int b0), .val (.int b1), .val (.int b2), .val (.ref r90), .val (.ref r91), .val (.int (own_dom3 a0 a1 a2 b0 b1 b2)), .val (.int (0 : Int32)), .unset] [(.int (1 : Int32))]))
              refine own_by (fun t k => XS.istore X92.here hx rfl (hb hby at_185) rfl (l' := #[.val (.int q1), .val (.int q2), .val (.int q3), .val (.int (3 : Int32)), .val (.int a0), .val (.int a1), .val (.int a2), .val (.int b0), .val (.int b1), .val (.int b2), .val (.ref r90), .val (.ref r91), .val (.int (own_dom3 a0 a1 a2 b0 b1 b2)), .val (.int (0 : Int32)), .val (.int (1 : Int32))]) rfl k) ?_
              show own_Go p.tables e below K (T92.setTop (mkF m 187 #[.val (.int q1), .val (.int q2), .val (.int q3), .val (.int (3 : Int32)), .val (.int a0), .val (.int a1), .val (.int a2), .val (.int b0), .val (.int b1), .val (.int b2), .val (.ref r90), .val (.ref r91), .val (.int (own_dom3 a0 a1 a2 b0 b1 b2)), .val (.int (0 : Int32)), .val (.int (1 : Int32))] []))
              refine own_by (fun t k => XS.iload X92.here hx rfl (hb hby at_187) rfl k) ?_
              show own_Go p.tables e below K (T92.setTop (mkF m 189 #[.val (.int q1), .val (.int q2), .val (.int q3), .val (.int (3 : Int32)), .val (.int a0), .val (.int a1), .val (.int a2), .val (.int b0), .val (.int b1), .val (.int b2), .val (.ref r90), .val (.ref r91), .val (.int (own_dom3 a0 a1 a2 b0 b1 b2)), .val (.int (0 : Int32)), .val (.int (1 : Int32))] [(.int (own_dom3 a0 a1 a2 b0 b1 b2))]))
              refine own_by (fun t k => XS.iload X92.here hx rfl (hb hby at_189) rfl k) ?_
              show own_Go p.tables e below K (T92.setTop (mkF m 191 #[.val (.int q1), .val (.int q2), .val (.int q3), .val (.int (3 : Int32)), .val (.int a0), .val (.int a1), .val (.int a2), .val (.int b0), .val (.int b1), .val (.int b2), .val (.ref r90), .val (.ref r91), .val (.int (own_dom3 a0 a1 a2 b0 b1 b2)), .val (.int (0 : Int32)), .val (.int (1 : Int32))] [(.int (0 : Int32)), (.int (own_dom3 a0 a1 a2 b0 b1 b2))]))
              have hc191 : (0 : Int32) = (0 : Int32) := by decide
              refine own_by (fun t k => XS.ifYes X92.here hx rfl (pc0 := 191) (pc' := 203) rfl (hb hby at_191) rfl ((if0 _ _).trans (teq hc191).1) (by decide) (by decide) k) ?_
              show own_Go p.tables e below K (T92.setTop (mkF m 203 #[.val (.int q1), .val (.int q2), .val (.int q3), .val (.int (3 : Int32)), .val (.int a0), .val (.int a1), .val (.int a2), .val (.int b0), .val (.int b1), .val (.int b2), .val (.ref r90), .val (.ref r91), .val (.int (own_dom3 a0 a1 a2 b0 b1 b2)), .val (.int (0 : Int32)), .val (.int (1 : Int32))] [(.int (own_dom3 a0 a1 a2 b0 b1 b2))]))
              refine own_by (fun t k => XS.iconst X92.here hx rfl (hb hby at_203) k) ?_
              show own_Go p.tables e below K (T92.setTop (mkF m 204 #[.val (.int q1), .val (.int q2), .val (.int q3), .val (.int (3 : Int32)), .val (.int a0), .val (.int a1), .val (.int a2), .val (.int b0), .val (.int b1), .val (.int b2), .val (.ref r90), .val (.ref r91), .val (.int (own_dom3 a0 a1 a2 b0 b1 b2)), .val (.int (0 : Int32)), .val (.int (1 : Int32))] [(.int (0 : Int32)), (.int (own_dom3 a0 a1 a2 b0 b1 b2))]))
              have hc204 : (own_dom3 a0 a1 a2 b0 b1 b2) = (0 : Int32) := by simp_all [own_dom3]
              refine own_by (fun t k => XS.icmpNo X92.here hx rfl (hb hby at_204) rfl (teq hc204).2 k) ?_
              show own_Go p.tables e below K (T92.setTop (mkF m 207 #[.val (.int q1), .val (.int q2), .val (.int q3), .val (.int (3 : Int32)), .val (.int a0), .val (.int a1), .val (.int a2), .val (.int b0), .val (.int b1), .val (.int b2), .val (.ref r90), .val (.ref r91), .val (.int (own_dom3 a0 a1 a2 b0 b1 b2)), .val (.int (0 : Int32)), .val (.int (1 : Int32))] []))
              refine own_by (fun t k => XS.iconst X92.here hx rfl (hb hby at_207) k) ?_
              show own_Go p.tables e below K (T92.setTop (mkF m 208 #[.val (.int q1), .val (.int q2), .val (.int q3), .val (.int (3 : Int32)), .val (.int a0), .val (.int a1), .val (.int a2), .val (.int b0), .val (.int b1), .val (.int b2), .val (.ref r90), .val (.ref r91), .val (.int (own_dom3 a0 a1 a2 b0 b1 b2)), .val (.int (0 : Int32)), .val (.int (1 : Int32))] [(.int (1 : Int32))]))
              refine own_by (fun t k => XS.goto X92.here hx rfl (pc0 := 208) (pc' := 212) rfl (hb hby at_208) (by decide) (by decide) k) ?_
              show own_Go p.tables e below K (T92.setTop (mkF m 212 #[.val (.int q1), .val (.int q2), .val (.int q3), .val (.int (3 : Int32)), .val (.int a0), .val (.int a1), .val (.int a2), .val (.int b0), .val (.int b1), .val (.int b2), .val (.ref r90), .val (.ref r91), .val (.int (own_dom3 a0 a1 a2 b0 b1 b2)), .val (.int (0 : Int32)), .val (.int (1 : Int32))] [(.int (1 : Int32))]))
              exact own_retZ X92 hx (t := .boolean) hret (by simp) (hb hby at_212) (hK (some (.int (1 : Int32))) X92 (fun h => by rw [hret] at h; cases h) (⟨rfl, N92⟩) (by decide) (by decide))
            · refine own_by (fun t k => XS.icmpNo X92.here hx rfl (hb hby at_153) rfl (flt hc153).1 k) ?_
              show own_Go p.tables e below K (T92.setTop (mkF m 156 #[.val (.int q1), .val (.int q2), .val (.int q3), .val (.int (3 : Int32)), .val (.int a0), .val (.int a1), .val (.int a2), .val (.int b0), .val (.int b1), .val (.int b2), .val (.ref r90), .val (.ref r91), .val (.int (own_dom3 a0 a1 a2 b0 b1 b2)), .val (.int (0 : Int32)), .unset] []))
              refine own_by (fun t k => XS.iloadN X92.here hx rfl (hb hby at_156) rfl k) ?_
              show own_Go p.tables e below K (T92.setTop (mkF m 157 #[.val (.int q1), .val (.int q2), .val (.int q3), .val (.int (3 : Int32)), .val (.int a0), .val (.int a1), .val (.int a2), .val (.int b0), .val (.int b1), .val (.int b2), .val (.ref r90), .val (.ref r91), .val (.int (own_dom3 a0 a1 a2 b0 b1 b2)), .val (.int (0 : Int32)), .unset] [(.int (3 : Int32))]))
              refine own_by (fun t k => XS.iconst X92.here hx rfl (hb hby at_157) k) ?_
              show own_Go p.tables e below K (T92.setTop (mkF m 158 #[.val (.int q1), .val (.int q2), .val (.int q3), .val (.int (3 : Int32)), .val (.int a0), .val (.int a1), .val (.int a2), .val (.int b0), .val (.int b1), .val (.int b2), .val (.ref r90), .val (.ref r91), .val (.int (own_dom3 a0 a1 a2 b0 b1 b2)), .val (.int (0 : Int32)), .unset] [(.int (2 : Int32)), (.int (3 : Int32))]))
              have hc158 : ¬ ((3 : Int32) < (2 : Int32)) := by decide
              refine own_by (fun t k => XS.icmpNo X92.here hx rfl (hb hby at_158) rfl (flt hc158).1 k) ?_
              show own_Go p.tables e below K (T92.setTop (mkF m 161 #[.val (.int q1), .val (.int q2), .val (.int q3), .val (.int (3 : Int32)), .val (.int a0), .val (.int a1), .val (.int a2), .val (.int b0), .val (.int b1), .val (.int b2), .val (.ref r90), .val (.ref r91), .val (.int (own_dom3 a0 a1 a2 b0 b1 b2)), .val (.int (0 : Int32)), .unset] []))
              refine own_by (fun t k => XS.iload X92.here hx rfl (hb hby at_161) rfl k) ?_
              show own_Go p.tables e below K (T92.setTop (mkF m 163 #[.val (.int q1), .val (.int q2), .val (.int q3), .val (.int (3 : Int32)), .val (.int a0), .val (.int a1), .val (.int a2), .val (.int b0), .val (.int b1), .val (.int b2), .val (.ref r90), .val (.ref r91), .val (.int (own_dom3 a0 a1 a2 b0 b1 b2)), .val (.int (0 : Int32)), .unset] [(.int a1)]))
              refine own_by (fun t k => XS.iload X92.here hx rfl (hb hby at_163) rfl k) ?_
              show own_Go p.tables e below K (T92.setTop (mkF m 165 #[.val (.int q1), .val (.int q2), .val (.int q3), .val (.int (3 : Int32)), .val (.int a0), .val (.int a1), .val (.int a2), .val (.int b0), .val (.int b1), .val (.int b2), .val (.ref r90), .val (.ref r91), .val (.int (own_dom3 a0 a1 a2 b0 b1 b2)), .val (.int (0 : Int32)), .unset] [(.int b1), (.int a1)]))
              by_cases hc165 : a1 < b1
              · refine own_by (fun t k => XS.icmpYes X92.here hx rfl (pc0 := 165) (pc' := 180) rfl (hb hby at_165) rfl (tlt hc165).1 (by decide) (by decide) k) ?_
                show own_Go p.tables e below K (T92.setTop (mkF m 180 #[.val (.int q1), .val (.int q2), .val (.int q3), .val (.int (3 : Int32)), .val (.int a0), .val (.int a1), .val (.int a2), .val (.int b0), .val (.int b1), .val (.int b2), .val (.ref r90), .val (.ref r91), .val (.int (own_dom3 a0 a1 a2 b0 b1 b2)), .val (.int (0 : Int32)), .unset] []))
                refine own_by (fun t k => XS.iconst X92.here hx rfl (hb hby at_180) k) ?_
                show own_Go p.tables e below K (T92.setTop (mkF m 181 #[.val (.int q1), .val (.int q2), .val (.int q3), .val (.int (3 : Int32)), .val (.int a0), .val (.int a1), .val (.int a2), .val (.int b0), .val (.int b1), .val (.int b2), .val (.ref r90), .val (.ref r91), .val (.int (own_dom3 a0 a1 a2 b0 b1 b2)), .val (.int (0 : Int32)), .unset] [(.int (1 : Int32))]))
                refine own_by (fun t k => XS.goto X92.here hx rfl (pc0 := 181) (pc' := 185) rfl (hb hby at_181) (by decide) (by decide) k) ?_
                show own_Go p.tables e below K (T92.setTop (mkF m 185 #[.val (.int q1), .val (.int q2), .val (.int q3), .val (.int (3 : Int32)), .val (.int a0), .val (.int a1), .val (.int a2), .val (.int b0), .val (.int b1), .val (.int b2), .val (.ref r90), .val (.ref r91), .val (.int (own_dom3 a0 a1 a2 b0 b1 b2)), .val (.int (0 : Int32)), .unset] [(.int (1 : Int32))]))
                refine own_by (fun t k => XS.istore X92.here hx rfl (hb hby at_185) rfl (l' := #[.val (.int q1), .val (.int q2), .val (.int q3), .val (.int (3 : Int32)), .val (.int a0), .val (.int a1), .val (.int a2), .val (.int b0), .val (.int b1), .val (.int b2), .val (.ref r90), .val (.ref r91), .val (.int (own_dom3 a0 a1 a2 b0 b1 b2)), .val (.int (0 : Int32)), .val (.int (1 : Int32))]) rfl k) ?_
                show own_Go p.tables e below K (T92.setTop (mkF m 187 #[.val (.int q1), .val (.int q2), .val (.int q3), .val (.int (3 : Int32)), .val (.int a0), .val (.int a1), .val (.int a2), .val (.int b0), .val (.int b1), .val (.int b2), .val (.ref r90), .val (.ref r91), .val (.int (own_dom3 a0 a1 a2 b0 b1 b2)), .val (.int (0 : Int32)), .val (.int (1 : Int32))] []))
                refine own_by (fun t k => XS.iload X92.here hx rfl (hb hby at_187) rfl k) ?_
                show own_Go p.tables e below K (T92.setTop (mkF m 189 #[.val (.int q1), .val (.int q2), .val (.int q3), .val (.int (3 : Int32)), .val (.int a0), .val (.int a1), .val (.int a2), .val (.int b0), .val (.int b1), .val (.int b2), .val (.ref r90), .val (.ref r91), .val (.int (own_dom3 a0 a1 a2 b0 b1 b2)), .val (.int (0 : Int32)), .val (.int (1 : Int32))] [(.int (own_dom3 a0 a1 a2 b0 b1 b2))]))
                refine own_by (fun t k => XS.iload X92.here hx rfl (hb hby at_189) rfl k) ?_
                show own_Go p.tables e below K (T92.setTop (mkF m 191 #[.val (.int q1), .val (.int q2), .val (.int q3), .val (.int (3 : Int32)), .val (.int a0), .val (.int a1), .val (.int a2), .val (.int b0), .val (.int b1), .val (.int b2), .val (.ref r90), .val (.ref r91), .val (.int (own_dom3 a0 a1 a2 b0 b1 b2)), .val (.int (0 : Int32)), .val (.int (1 : Int32))] [(.int (0 : Int32)), (.int (own_dom3 a0 a1 a2 b0 b1 b2))]))
                have hc191 : (0 : Int32) = (0 : Int32) := by decide
                refine own_by (fun t k => XS.ifYes X92.here hx rfl (pc0 := 191) (pc' := 203) rfl (hb hby at_191) rfl ((if0 _ _).trans (teq hc191).1) (by decide) (by decide) k) ?_
                show own_Go p.tables e below K (T92.setTop (mkF m 203 #[.val (.int q1), .val (.int q2), .val (.int q3), .val (.int (3 : Int32)), .val (.int a0), .val (.int a1), .val (.int a2), .val (.int b0), .val (.int b1), .val (.int b2), .val (.ref r90), .val (.ref r91), .val (.int (own_dom3 a0 a1 a2 b0 b1 b2)), .val (.int (0 : Int32)), .val (.int (1 : Int32))] [(.int (own_dom3 a0 a1 a2 b0 b1 b2))]))
                refine own_by (fun t k => XS.iconst X92.here hx rfl (hb hby at_203) k) ?_
                show own_Go p.tables e below K (T92.setTop (mkF m 204 #[.val (.int q1), .val (.int q2), .val (.int q3), .val (.int (3 : Int32)), .val (.int a0), .val (.int a1), .val (.int a2), .val (.int b0), .val (.int b1), .val (.int b2), .val (.ref r90), .val (.ref r91), .val (.int (own_dom3 a0 a1 a2 b0 b1 b2)), .val (.int (0 : Int32)), .val (.int (1 : Int32))] [(.int (0 : Int32)), (.int (own_dom3 a0 a1 a2 b0 b1 b2))]))
                have hc204 : (own_dom3 a0 a1 a2 b0 b1 b2) = (0 : Int32) := by simp_all [own_dom3]
                refine own_by (fun t k => XS.icmpNo X92.here hx rfl (hb hby at_204) rfl (teq hc204).2 k) ?_
                show own_Go p.tables e below K (T92.setTop (mkF m 207 #[.val (.int q1), .val (.int q2), .val (.int q3), .val (.int (3 : Int32)), .val (.int a0), .val (.int a1), .val (.int a2), .val (.int b0), .val (.int b1), .val (.int b2), .val (.ref r90), .val (.ref r91), .val (.int (own_dom3 a0 a1 a2 b0 b1 b2)), .val (.int (0 : Int32)), .val (.int (1 : Int32))] []))
                refine own_by (fun t k => XS.iconst X92.here hx rfl (hb hby at_207) k) ?_
                show own_Go p.tables e below K (T92.setTop (mkF m 208 #[.val (.int q1), .val (.int q2), .val (.int q3), .val (.int (3 : Int32)), .val (.int a0), .val (.int a1), .val (.int a2), .val (.int b0), .val (.int b1), .val (.int b2), .val (.ref r90), .val (.ref r91), .val (.int (own_dom3 a0 a1 a2 b0 b1 b2)), .val (.int (0 : Int32)), .val (.int (1 : Int32))] [(.int (1 : Int32))]))
                refine own_by (fun t k => XS.goto X92.here hx rfl (pc0 := 208) (pc' := 212) rfl (hb hby at_208) (by decide) (by decide) k) ?_
                show own_Go p.tables e below K (T92.setTop (mkF m 212 #[.val (.int q1), .val (.int q2), .val (.int q3), .val (.int (3 : Int32)), .val (.int a0), .val (.int a1), .val (.int a2), .val (.int b0), .val (.int b1), .val (.int b2), .val (.ref r90), .val (.ref r91), .val (.int (own_dom3 a0 a1 a2 b0 b1 b2)), .val (.int (0 : Int32)), .val (.int (1 : Int32))] [(.int (1 : Int32))]))
                exact own_retZ X92 hx (t := .boolean) hret (by simp) (hb hby at_212) (hK (some (.int (1 : Int32))) X92 (fun h => by rw [hret] at h; cases h) (⟨rfl, N92⟩) (by decide) (by decide))
              · refine own_by (fun t k => XS.icmpNo X92.here hx rfl (hb hby at_165) rfl (flt hc165).1 k) ?_
                show own_Go p.tables e below K (T92.setTop (mkF m 168 #[.val (.int q1), .val (.int q2), .val (.int q3), .val (.int (3 : Int32)), .val (.int a0), .val (.int a1), .val (.int a2), .val (.int b0), .val (.int b1), .val (.int b2), .val (.ref r90), .val (.ref r91), .val (.int (own_dom3 a0 a1 a2 b0 b1 b2)), .val (.int (0 : Int32)), .unset] []))
                refine own_by (fun t k => XS.iloadN X92.here hx rfl (hb hby at_168) rfl k) ?_
                show own_Go p.tables e below K (T92.setTop (mkF m 169 #[.val (.int q1), .val (.int q2), .val (.int q3), .val (.int (3 : Int32)), .val (.int a0), .val (.int a1), .val (.int a2), .val (.int b0), .val (.int b1), .val (.int b2), .val (.ref r90), .val (.ref r91), .val (.int (own_dom3 a0 a1 a2 b0 b1 b2)), .val (.int (0 : Int32)), .unset] [(.int (3 : Int32))]))
                refine own_by (fun t k => XS.iconst X92.here hx rfl (hb hby at_169) k) ?_
                show own_Go p.tables e below K (T92.setTop (mkF m 170 #[.val (.int q1), .val (.int q2), .val (.int q3), .val (.int (3 : Int32)), .val (.int a0), .val (.int a1), .val (.int a2), .val (.int b0), .val (.int b1), .val (.int b2), .val (.ref r90), .val (.ref r91), .val (.int (own_dom3 a0 a1 a2 b0 b1 b2)), .val (.int (0 : Int32)), .unset] [(.int (3 : Int32)), (.int (3 : Int32))]))
                have hc170 : ¬ ((3 : Int32) < (3 : Int32)) := by decide
                refine own_by (fun t k => XS.icmpNo X92.here hx rfl (hb hby at_170) rfl (flt hc170).1 k) ?_
                show own_Go p.tables e below K (T92.setTop (mkF m 173 #[.val (.int q1), .val (.int q2), .val (.int q3), .val (.int (3 : Int32)), .val (.int a0), .val (.int a1), .val (.int a2), .val (.int b0), .val (.int b1), .val (.int b2), .val (.ref r90), .val (.ref r91), .val (.int (own_dom3 a0 a1 a2 b0 b1 b2)), .val (.int (0 : Int32)), .unset] []))
                refine own_by (fun t k => XS.iload X92.here hx rfl (hb hby at_173) rfl k) ?_
                show own_Go p.tables e below K (T92.setTop (mkF m 175 #[.val (.int q1), .val (.int q2), .val (.int q3), .val (.int (3 : Int32)), .val (.int a0), .val (.int a1), .val (.int a2), .val (.int b0), .val (.int b1), .val (.int b2), .val (.ref r90), .val (.ref r91), .val (.int (own_dom3 a0 a1 a2 b0 b1 b2)), .val (.int (0 : Int32)), .unset] [(.int a2)]))
                refine own_by (fun t k => XS.iload X92.here hx rfl (hb hby at_175) rfl k) ?_
                show own_Go p.tables e below K (T92.setTop (mkF m 177 #[.val (.int q1), .val (.int q2), .val (.int q3), .val (.int (3 : Int32)), .val (.int a0), .val (.int a1), .val (.int a2), .val (.int b0), .val (.int b1), .val (.int b2), .val (.ref r90), .val (.ref r91), .val (.int (own_dom3 a0 a1 a2 b0 b1 b2)), .val (.int (0 : Int32)), .unset] [(.int b2), (.int a2)]))
                by_cases hc177 : a2 < b2
                · refine own_by (fun t k => XS.icmpNo X92.here hx rfl (hb hby at_177) rfl (tlt hc177).2.1 k) ?_
                  show own_Go p.tables e below K (T92.setTop (mkF m 180 #[.val (.int q1), .val (.int q2), .val (.int q3), .val (.int (3 : Int32)), .val (.int a0), .val (.int a1), .val (.int a2), .val (.int b0), .val (.int b1), .val (.int b2), .val (.ref r90), .val (.ref r91), .val (.int (own_dom3 a0 a1 a2 b0 b1 b2)), .val (.int (0 : Int32)), .unset] []))
                  refine own_by (fun t k => XS.iconst X92.here hx rfl (hb hby at_180) k) ?_
                  show own_Go p.tables e below K (T92.setTop (mkF m 181 #[.val (.int q1), .val (.int q2), .val (.int q3), .val (.int (3 : Int32)), .val (.int a0), .val (.int a1), .val (.int a2), .val (.int b0), .val (.int b1), .val (.int b2), .val (.ref r90), .val (.ref r91), .val (.int (own_dom3 a0 a1 a2 b0 b1 b2)), .val (.int (0 : Int32)), .unset] [(.int (1 : Int32))]))
                  refine own_by (fun t k => XS.goto X92.here hx rfl (pc0 := 181) (pc' := 185) rfl (hb hby at_181) (by decide) (by decide) k) ?_
                  show own_Go p.tables e below K (T92.setTop (mkF m 185 #[.val (.int q1), .val (.int q2), .val (.int q3), .val (.int (3 : Int32)), .val (.int a0), .val (.int a1), .val (.int a2), .val (.int b0), .val (.int b1), .val (.int b2), .val (.ref r90), .val (.ref r91), .val (.int (own_dom3 a0 a1 a2 b0 b1 b2)), .val (.int (0 : Int32)), .unset] [(.int (1 : Int32))]))
                  refine own_by (fun t k => XS.istore X92.here hx rfl (hb hby at_185) rfl (l' := #[.val (.int q1), .val (.int q2), .val (.int q3), .val (.int (3 : Int32)), .val (.int a0), .val (.int a1), .val (.int a2), .val (.int b0), .val (.int b1), .val (.int b2), .val (.ref r90), .val (.ref r91), .val (.int (own_dom3 a0 a1 a2 b0 b1 b2)), .val (.int (0 : Int32)), .val (.int (1 : Int32))]) rfl k) ?_
                  show own_Go p.tables e below K (T92.setTop (mkF m 187 #[.val (.int q1), .val (.int q2), .val (.int q3), .val (.int (3 : Int32)), .val (.int a0), .val (.int a1), .val (.int a2), .val (.int b0), .val (.int b1), .val (.int b2), .val (.ref r90), .val (.ref r91), .val (.int (own_dom3 a0 a1 a2 b0 b1 b2)), .val (.int (0 : Int32)), .val (.int (1 : Int32))] []))
                  refine own_by (fun t k => XS.iload X92.here hx rfl (hb hby at_187) rfl k) ?_
                  show own_Go p.tables e below K (T92.setTop (mkF m 189 #[.val (.int q1), .val (.int q2), .val (.int q3), .val (.int (3 : Int32)), .val (.int a0), .val (.int a1), .val (.int a2), .val (.int b0), .val (.int b1), .val (.int b2), .val (.ref r90), .val (.ref r91), .val (.int (own_dom3 a0 a1 a2 b0 b1 b2)), .val (.int (0 : Int32)), .val (.int (1 : Int32))] [(.int (own_dom3 a0 a1 a2 b0 b1 b2))]))
                  refine own_by (fun t k => XS.iload X92.here hx rfl (hb hby at_189) rfl k) ?_
                  show own_Go p.tables e below K (T92.setTop (mkF m 191 #[.val (.int q1), .val (.int q2), .val (.int q3), .val (.int (3 : Int32)), .val (.int a0), .val (.int a1), .val (.int a2), .val (.int b0), .val (.int b1), .val (.int b2), .val (.ref r90), .val (.ref r91), .val (.int (own_dom3 a0 a1 a2 b0 b1 b2)), .val (.int (0 : Int32)), .val (.int (1 : Int32))] [(.int (0 : Int32)), (.int (own_dom3 a0 a1 a2 b0 b1 b2))]))
                  have hc191 : (0 : Int32) = (0 : Int32) := by decide
                  refine own_by (fun t k => XS.ifYes X92.here hx rfl (pc0 := 191) (pc' := 203) rfl (hb hby at_191) rfl ((if0 _ _).trans (teq hc191).1) (by decide) (by decide) k) ?_
                  show own_Go p.tables e below K (T92.setTop (mkF m 203 #[.val (.int q1), .val (.int q2), .val (.int q3), .val (.int (3 : Int32)), .val (.int a0), .val (.int a1), .val (.int a2), .val (.int b0), .val (.int b1), .val (.int b2), .val (.ref r90), .val (.ref r91), .val (.int (own_dom3 a0 a1 a2 b0 b1 b2)), .val (.int (0 : Int32)), .val (.int (1 : Int32))] [(.int (own_dom3 a0 a1 a2 b0 b1 b2))]))
                  refine own_by (fun t k => XS.iconst X92.here hx rfl (hb hby at_203) k) ?_
                  show own_Go p.tables e below K (T92.setTop (mkF m 204 #[.val (.int q1), .val (.int q2), .val (.int q3), .val (.int (3 : Int32)), .val (.int a0), .val (.int a1), .val (.int a2), .val (.int b0), .val (.int b1), .val (.int b2), .val (.ref r90), .val (.ref r91), .val (.int (own_dom3 a0 a1 a2 b0 b1 b2)), .val (.int (0 : Int32)), .val (.int (1 : Int32))] [(.int (0 : Int32)), (.int (own_dom3 a0 a1 a2 b0 b1 b2))]))
                  have hc204 : (own_dom3 a0 a1 a2 b0 b1 b2) = (0 : Int32) := by simp_all [own_dom3]
                  refine own_by (fun t k => XS.icmpNo X92.here hx rfl (hb hby at_204) rfl (teq hc204).2 k) ?_
                  show own_Go p.tables e below K (T92.setTop (mkF m 207 #[.val (.int q1), .val (.int q2), .val (.int q3), .val (.int (3 : Int32)), .val (.int a0), .val (.int a1), .val (.int a2), .val (.int b0), .val (.int b1), .val (.int b2), .val (.ref r90), .val (.ref r91), .val (.int (own_dom3 a0 a1 a2 b0 b1 b2)), .val (.int (0 : Int32)), .val (.int (1 : Int32))] []))
                  refine own_by (fun t k => XS.iconst X92.here hx rfl (hb hby at_207) k) ?_
                  show own_Go p.tables e below K (T92.setTop (mkF m 208 #[.val (.int q1), .val (.int q2), .val (.int q3), .val (.int (3 : Int32)), .val (.int a0), .val (.int a1), .val (.int a2), .val (.int b0), .val (.int b1), .val (.int b2), .val (.ref r90), .val (.ref r91), .val (.int (own_dom3 a0 a1 a2 b0 b1 b2)), .val (.int (0 : Int32)), .val (.int (1 : Int32))] [(.int (1 : Int32))]))
                  refine own_by (fun t k => XS.goto X92.here hx rfl (pc0 := 208) (pc' := 212) rfl (hb hby at_208) (by decide) (by decide) k) ?_
                  show own_Go p.tables e below K (T92.setTop (mkF m 212 #[.val (.int q1), .val (.int q2), .val (.int q3), .val (.int (3 : Int32)), .val (.int a0), .val (.int a1), .val (.int a2), .val (.int b0), .val (.int b1), .val (.int b2), .val (.ref r90), .val (.ref r91), .val (.int (own_dom3 a0 a1 a2 b0 b1 b2)), .val (.int (0 : Int32)), .val (.int (1 : Int32))] [(.int (1 : Int32))]))
                  exact own_retZ X92 hx (t := .boolean) hret (by simp) (hb hby at_212) (hK (some (.int (1 : Int32))) X92 (fun h => by rw [hret] at h; cases h) (⟨rfl, N92⟩) (by decide) (by decide))
                · refine own_by (fun t k => XS.icmpYes X92.here hx rfl (pc0 := 177) (pc' := 184) rfl (hb hby at_177) rfl (flt hc177).2.1 (by decide) (by decide) k) ?_
                  show own_Go p.tables e below K (T92.setTop (mkF m 184 #[.val (.int q1), .val (.int q2), .val (.int q3), .val (.int (3 : Int32)), .val (.int a0), .val (.int a1), .val (.int a2), .val (.int b0), .val (.int b1), .val (.int b2), .val (.ref r90), .val (.ref r91), .val (.int (own_dom3 a0 a1 a2 b0 b1 b2)), .val (.int (0 : Int32)), .unset] []))
                  refine own_by (fun t k => XS.iconst X92.here hx rfl (hb hby at_184) k) ?_
                  show own_Go p.tables e below K (T92.setTop (mkF m 185 #[.val (.int q1), .val (.int q2), .val (.int q3), .val (.int (3 : Int32)), .val (.int a0), .val (.int a1), .val (.int a2), .val (.int b0), .val (.int b1), .val (.int b2), .val (.ref r90), .val (.ref r91), .val (.int (own_dom3 a0 a1 a2 b0 b1 b2)), .val (.int (0 : Int32)), .unset] [(.int (0 : Int32))]))
                  refine own_by (fun t k => XS.istore X92.here hx rfl (hb hby at_185) rfl (l' := #[.val (.int q1), .val (.int q2), .val (.int q3), .val (.int (3 : Int32)), .val (.int a0), .val (.int a1), .val (.int a2), .val (.int b0), .val (.int b1), .val (.int b2), .val (.ref r90), .val (.ref r91), .val (.int (own_dom3 a0 a1 a2 b0 b1 b2)), .val (.int (0 : Int32)), .val (.int (0 : Int32))]) rfl k) ?_
                  show own_Go p.tables e below K (T92.setTop (mkF m 187 #[.val (.int q1), .val (.int q2), .val (.int q3), .val (.int (3 : Int32)), .val (.int a0), .val (.int a1), .val (.int a2), .val (.int b0), .val (.int b1), .val (.int b2), .val (.ref r90), .val (.ref r91), .val (.int (own_dom3 a0 a1 a2 b0 b1 b2)), .val (.int (0 : Int32)), .val (.int (0 : Int32))] []))
                  refine own_by (fun t k => XS.iload X92.here hx rfl (hb hby at_187) rfl k) ?_
                  show own_Go p.tables e below K (T92.setTop (mkF m 189 #[.val (.int q1), .val (.int q2), .val (.int q3), .val (.int (3 : Int32)), .val (.int a0), .val (.int a1), .val (.int a2), .val (.int b0), .val (.int b1), .val (.int b2), .val (.ref r90), .val (.ref r91), .val (.int (own_dom3 a0 a1 a2 b0 b1 b2)), .val (.int (0 : Int32)), .val (.int (0 : Int32))] [(.int (own_dom3 a0 a1 a2 b0 b1 b2))]))
                  refine own_by (fun t k => XS.iload X92.here hx rfl (hb hby at_189) rfl k) ?_
                  show own_Go p.tables e below K (T92.setTop (mkF m 191 #[.val (.int q1), .val (.int q2), .val (.int q3), .val (.int (3 : Int32)), .val (.int a0), .val (.int a1), .val (.int a2), .val (.int b0), .val (.int b1), .val (.int b2), .val (.ref r90), .val (.ref r91), .val (.int (own_dom3 a0 a1 a2 b0 b1 b2)), .val (.int (0 : Int32)), .val (.int (0 : Int32))] [(.int (0 : Int32)), (.int (own_dom3 a0 a1 a2 b0 b1 b2))]))
                  have hc191 : (0 : Int32) = (0 : Int32) := by decide
                  refine own_by (fun t k => XS.ifYes X92.here hx rfl (pc0 := 191) (pc' := 203) rfl (hb hby at_191) rfl ((if0 _ _).trans (teq hc191).1) (by decide) (by decide) k) ?_
                  show own_Go p.tables e below K (T92.setTop (mkF m 203 #[.val (.int q1), .val (.int q2), .val (.int q3), .val (.int (3 : Int32)), .val (.int a0), .val (.int a1), .val (.int a2), .val (.int b0), .val (.int b1), .val (.int b2), .val (.ref r90), .val (.ref r91), .val (.int (own_dom3 a0 a1 a2 b0 b1 b2)), .val (.int (0 : Int32)), .val (.int (0 : Int32))] [(.int (own_dom3 a0 a1 a2 b0 b1 b2))]))
                  refine own_by (fun t k => XS.iconst X92.here hx rfl (hb hby at_203) k) ?_
                  show own_Go p.tables e below K (T92.setTop (mkF m 204 #[.val (.int q1), .val (.int q2), .val (.int q3), .val (.int (3 : Int32)), .val (.int a0), .val (.int a1), .val (.int a2), .val (.int b0), .val (.int b1), .val (.int b2), .val (.ref r90), .val (.ref r91), .val (.int (own_dom3 a0 a1 a2 b0 b1 b2)), .val (.int (0 : Int32)), .val (.int (0 : Int32))] [(.int (0 : Int32)), (.int (own_dom3 a0 a1 a2 b0 b1 b2))]))
                  have hc204 : (own_dom3 a0 a1 a2 b0 b1 b2) = (0 : Int32) := by simp_all [own_dom3]
                  refine own_by (fun t k => XS.icmpNo X92.here hx rfl (hb hby at_204) rfl (teq hc204).2 k) ?_
                  show own_Go p.tables e below K (T92.setTop (mkF m 207 #[.val (.int q1), .val (.int q2), .val (.int q3), .val (.int (3 : Int32)), .val (.int a0), .val (.int a1), .val (.int a2), .val (.int b0), .val (.int b1), .val (.int b2), .val (.ref r90), .val (.ref r91), .val (.int (own_dom3 a0 a1 a2 b0 b1 b2)), .val (.int (0 : Int32)), .val (.int (0 : Int32))] []))
                  refine own_by (fun t k => XS.iconst X92.here hx rfl (hb hby at_207) k) ?_
                  show own_Go p.tables e below K (T92.setTop (mkF m 208 #[.val (.int q1), .val (.int q2), .val (.int q3), .val (.int (3 : Int32)), .val (.int a0), .val (.int a1), .val (.int a2), .val (.int b0), .val (.int b1), .val (.int b2), .val (.ref r90), .val (.ref r91), .val (.int (own_dom3 a0 a1 a2 b0 b1 b2)), .val (.int (0 : Int32)), .val (.int (0 : Int32))] [(.int (1 : Int32))]))
                  refine own_by (fun t k => XS.goto X92.here hx rfl (pc0 := 208) (pc' := 212) rfl (hb hby at_208) (by decide) (by decide) k) ?_
                  show own_Go p.tables e below K (T92.setTop (mkF m 212 #[.val (.int q1), .val (.int q2), .val (.int q3), .val (.int (3 : Int32)), .val (.int a0), .val (.int a1), .val (.int a2), .val (.int b0), .val (.int b1), .val (.int b2), .val (.ref r90), .val (.ref r91), .val (.int (own_dom3 a0 a1 a2 b0 b1 b2)), .val (.int (0 : Int32)), .val (.int (0 : Int32))] [(.int (1 : Int32))]))
                  exact own_retZ X92 hx (t := .boolean) hret (by simp) (hb hby at_212) (hK (some (.int (1 : Int32))) X92 (fun h => by rw [hret] at h; cases h) (⟨rfl, N92⟩) (by decide) (by decide))
          · refine own_by (fun t k => XS.icmpNo X92.here hx rfl (hb hby at_134) rfl (flt hc134).2.2.1 k) ?_
            show own_Go p.tables e below K (T92.setTop (mkF m 137 #[.val (.int q1), .val (.int q2), .val (.int q3), .val (.int (3 : Int32)), .val (.int a0), .val (.int a1), .val (.int a2), .val (.int b0), .val (.int b1), .val (.int b2), .val (.ref r90), .val (.ref r91), .val (.int (own_dom3 a0 a1 a2 b0 b1 b2)), .unset, .unset] []))
            refine own_by (fun t k => XS.iconst X92.here hx rfl (hb hby at_137) k) ?_
            show own_Go p.tables e below K (T92.setTop (mkF m 138 #[.val (.int q1), .val (.int q2), .val (.int q3), .val (.int (3 : Int32)), .val (.int a0), .val (.int a1), .val (.int a2), .val (.int b0), .val (.int b1), .val (.int b2), .val (.ref r90), .val (.ref r91), .val (.int (own_dom3 a0 a1 a2 b0 b1 b2)), .unset, .unset] [(.int (1 : Int32))]))
            refine own_by (fun t k => XS.goto X92.here hx rfl (pc0 := 138) (pc' := 142) rfl (hb hby at_138) (by decide) (by decide) k) ?_
            show own_Go p.tables e below K (T92.setTop (mkF m 142 #[.val (.int q1), .val (.int q2), .val (.int q3), .val (.int (3 : Int32)), .val (.int a0), .val (.int a1), .val (.int a2), .val (.int b0), .val (.int b1), .val (.int b2), .val (.ref r90), .val (.ref r91), .val (.int (own_dom3 a0 a1 a2 b0 b1 b2)), .unset, .unset] [(.int (1 : Int32))]))
            refine own_by (fun t k => XS.istore X92.here hx rfl (hb hby at_142) rfl (l' := #[.val (.int q1), .val (.int q2), .val (.int q3), .val (.int (3 : Int32)), .val (.int a0), .val (.int a1), .val (.int a2), .val (.int b0), .val (.int b1), .val (.int b2), .val (.ref r90), .val (.ref r91), .val (.int (own_dom3 a0 a1 a2 b0 b1 b2)), .val (.int (1 : Int32)), .unset]) rfl k) ?_
            show own_Go p.tables e below K (T92.setTop (mkF m 144 #[.val (.int q1), .val (.int q2), .val (.int q3), .val (.int (3 : Int32)), .val (.int a0), .val (.int a1), .val (.int a2), .val (.int b0), .val (.int b1), .val (.int b2), .val (.ref r90), .val (.ref r91), .val (.int (own_dom3 a0 a1 a2 b0 b1 b2)), .val (.int (1 : Int32)), .unset] []))
            refine own_by (fun t k => XS.iloadN X92.here hx rfl (hb hby at_144) rfl k) ?_
            show own_Go p.tables e below K (T92.setTop (mkF m 145 #[.val (.int q1), .val (.int q2), .val (.int q3), .val (.int (3 : Int32)), .val (.int a0), .val (.int a1), .val (.int a2), .val (.int b0), .val (.int b1), .val (.int b2), .val (.ref r90), .val (.ref r91), .val (.int (own_dom3 a0 a1 a2 b0 b1 b2)), .val (.int (1 : Int32)), .unset] [(.int (3 : Int32))]))
            refine own_by (fun t k => XS.iconst X92.here hx rfl (hb hby at_145) k) ?_
            show own_Go p.tables e below K (T92.setTop (mkF m 146 #[.val (.int q1), .val (.int q2), .val (.int q3), .val (.int (3 : Int32)), .val (.int a0), .val (.int a1), .val (.int a2), .val (.int b0), .val (.int b1), .val (.int b2), .val (.ref r90), .val (.ref r91), .val (.int (own_dom3 a0 a1 a2 b0 b1 b2)), .val (.int (1 : Int32)), .unset] [(.int (1 : Int32)), (.int (3 : Int32))]))
            have hc146 : ¬ ((3 : Int32) < (1 : Int32)) := by decide
            refine own_by (fun t k => XS.icmpNo X92.here hx rfl (hb hby at_146) rfl (flt hc146).1 k) ?_
            show own_Go p.tables e below K (T92.setTop (mkF m 149 #[.val (.int q1), .val (.int q2), .val (.int q3), .val (.int (3 : Int32)), .val (.int a0), .val (.int a1), .val (.int a2), .val (.int b0), .val (.int b1), .val (.int b2), .val (.ref r90), .val (.ref r91), .val (.int (own_dom3 a0 a1 a2 b0 b1 b2)), .val (.int (1 : Int32)), .unset] []))
            refine own_by (fun t k => XS.iload X92.here hx rfl (hb hby at_149) rfl k) ?_
            show own_Go p.tables e below K (T92.setTop (mkF m 151 #[.val (.int q1), .val (.int q2), .val (.int q3), .val (.int (3 : Int32)), .val (.int a0), .val (.int a1), .val (.int a2), .val (.int b0), .val (.int b1), .val (.int b2), .val (.ref r90), .val (.ref r91), .val (.int (own_dom3 a0 a1 a2 b0 b1 b2)), .val (.int (1 : Int32)), .unset] [(.int a0)]))
            refine own_by (fun t k => XS.iload X92.here hx rfl (hb hby at_151) rfl k) ?_
            show own_Go p.tables e below K (T92.setTop (mkF m 153 #[.val (.int q1), .val (.int q2), .val (.int q3), .val (.int (3 : Int32)), .val (.int a0), .val (.int a1), .val (.int a2), .val (.int b0), .val (.int b1), .val (.int b2), .val (.ref r90), .val (.ref r91), .val (.int (own_dom3 a0 a1 a2 b0 b1 b2)), .val (.int (1 : Int32)), .unset] [(.int b0), (.int a0)]))
            by_cases hc153 : a0 < b0
            · refine own_by (fun t k => XS.icmpYes X92.here hx rfl (pc0 := 153) (pc' := 180) rfl (hb hby at_153) rfl (tlt hc153).1 (by decide) (by decide) k) ?_
              show own_Go p.tables e below K (T92.setTop (mkF m 180 #[.val (.int q1), .val (.int q2), .val (.int q3), .val (.int (3 : Int32)), .val (.int a0), .val (.int a1), .val (.int a2), .val (.int b0), .val (.int b1), .val (.int b2), .val (.ref r90), .val (.ref r91), .val (.int (own_dom3 a0 a1 a2 b0 b1 b2)), .val (.int (1 : Int32)), .unset] []))
              refine own_by (fun t k => XS.iconst X92.here hx rfl (hb hby at_180) k) ?_
              show own_Go p.tables e below K (T92.setTop (mkF m 181 #[.val (.int q1), .val (.int q2), .val (.int q3), .val (.int (3 : Int32)), .val (.int a0), .val (.int a1), .val (.int a2), .val (.int b0), .val (.int b1), .val (.int b2), .val (.ref r90), .val (.ref r91), .val (.int (own_dom3 a0 a1 a2 b0 b1 b2)), .val (.int (1 : Int32)), .unset] [(.int (1 : Int32))]))
              refine own_by (fun t k => XS.goto X92.here hx rfl (pc0 := 181) (pc' := 185) rfl (hb hby at_181) (by decide) (by decide) k) ?_
              show own_Go p.tables e below K (T92.setTop (mkF m 185 #[.val (.int q1), .val (.int q2), .val (.int q3), .val (.int (3 : Int32)), .val (.int a0), .val (.int a1), .val (.int a2), .val (.int b0), .val (.int b1), .val (.int b2), .val (.ref r90), .val (.ref r91), .val (.int (own_dom3 a0 a1 a2 b0 b1 b2)), .val (.int (1 : Int32)), .unset] [(.int (1 : Int32))]))
              refine own_by (fun t k => XS.istore X92.here hx rfl (hb hby at_185) rfl (l' := #[.val (.int q1), .val (.int q2), .val (.int q3), .val (.int (3 : Int32)), .val (.int a0), .val (.int a1), .val (.int a2), .val (.int b0), .val (.int b1), .val (.int b2), .val (.ref r90), .val (.ref r91), .val (.int (own_dom3 a0 a1 a2 b0 b1 b2)), .val (.int (1 : Int32)), .val (.int (1 : Int32))]) rfl k) ?_
              show own_Go p.tables e below K (T92.setTop (mkF m 187 #[.val (.int q1), .val (.int q2), .val (.int q3), .val (.int (3 : Int32)), .val (.int a0), .val (.int a1), .val (.int a2), .val (.int b0), .val (.int b1), .val (.int b2), .val (.ref r90), .val (.ref r91), .val (.int (own_dom3 a0 a1 a2 b0 b1 b2)), .val (.int (1 : Int32)), .val (.int (1 : Int32))] []))
              refine own_by (fun t k => XS.iload X92.here hx rfl (hb hby at_187) rfl k) ?_
              show own_Go p.tables e below K (T92.setTop (mkF m 189 #[.val (.int q1), .val (.int q2), .val (.int q3), .val (.int (3 : Int32)), .val (.int a0), .val (.int a1), .val (.int a2), .val (.int b0), .val (.int b1), .val (.int b2), .val (.ref r90), .val (.ref r91), .val (.int (own_dom3 a0 a1 a2 b0 b1 b2)), .val (.int (1 : Int32)), .val (.int (1 : Int32))] [(.int (own_dom3 a0 a1 a2 b0 b1 b2))]))
              refine own_by (fun t k => XS.iload X92.here hx rfl (hb hby at_189) rfl k) ?_
              show own_Go p.tables e below K (T92.setTop (mkF m 191 #[.val (.int q1), .val (.int q2), .val (.int q3), .val (.int (3 : Int32)), .val (.int a0), .val (.int a1), .val (.int a2), .val (.int b0), .val (.int b1), .val (.int b2), .val (.ref r90), .val (.ref r91), .val (.int (own_dom3 a0 a1 a2 b0 b1 b2)), .val (.int (1 : Int32)), .val (.int (1 : Int32))] [(.int (1 : Int32)), (.int (own_dom3 a0 a1 a2 b0 b1 b2))]))
              have hc191 : ¬ ((1 : Int32) = (0 : Int32)) := by decide
              refine own_by (fun t k => XS.ifNo X92.here hx rfl (hb hby at_191) rfl ((if0 _ _).trans (feq hc191).1) k) ?_
              show own_Go p.tables e below K (T92.setTop (mkF m 194 #[.val (.int q1), .val (.int q2), .val (.int q3), .val (.int (3 : Int32)), .val (.int a0), .val (.int a1), .val (.int a2), .val (.int b0), .val (.int b1), .val (.int b2), .val (.ref r90), .val (.ref r91), .val (.int (own_dom3 a0 a1 a2 b0 b1 b2)), .val (.int (1 : Int32)), .val (.int (1 : Int32))] [(.int (own_dom3 a0 a1 a2 b0 b1 b2))]))
              refine own_by (fun t k => XS.iload X92.here hx rfl (hb hby at_194) rfl k) ?_
              show own_Go p.tables e below K (T92.setTop (mkF m 196 #[.val (.int q1), .val (.int q2), .val (.int q3), .val (.int (3 : Int32)), .val (.int a0), .val (.int a1), .val (.int a2), .val (.int b0), .val (.int b1), .val (.int b2), .val (.ref r90), .val (.ref r91), .val (.int (own_dom3 a0 a1 a2 b0 b1 b2)), .val (.int (1 : Int32)), .val (.int (1 : Int32))] [(.int (1 : Int32)), (.int (own_dom3 a0 a1 a2 b0 b1 b2))]))
              have hc196 : ¬ ((1 : Int32) = (0 : Int32)) := by decide
              refine own_by (fun t k => XS.ifNo X92.here hx rfl (hb hby at_196) rfl ((if0 _ _).trans (feq hc196).1) k) ?_
              show own_Go p.tables e below K (T92.setTop (mkF m 199 #[.val (.int q1), .val (.int q2), .val (.int q3), .val (.int (3 : Int32)), .val (.int a0), .val (.int a1), .val (.int a2), .val (.int b0), .val (.int b1), .val (.int b2), .val (.ref r90), .val (.ref r91), .val (.int (own_dom3 a0 a1 a2 b0 b1 b2)), .val (.int (1 : Int32)), .val (.int (1 : Int32))] [(.int (own_dom3 a0 a1 a2 b0 b1 b2))]))
              refine own_by (fun t k => XS.iconst X92.here hx rfl (hb hby at_199) k) ?_
              show own_Go p.tables e below K (T92.setTop (mkF m 200 #[.val (.int q1), .val (.int q2), .val (.int q3), .val (.int (3 : Int32)), .val (.int a0), .val (.int a1), .val (.int a2), .val (.int b0), .val (.int b1), .val (.int b2), .val (.ref r90), .val (.ref r91), .val (.int (own_dom3 a0 a1 a2 b0 b1 b2)), .val (.int (1 : Int32)), .val (.int (1 : Int32))] [(.int (1 : Int32)), (.int (own_dom3 a0 a1 a2 b0 b1 b2))]))
              refine own_by (fun t k => XS.goto X92.here hx rfl (pc0 := 200) (pc' := 204) rfl (hb hby at_200) (by decide) (by decide) k) ?_
              show own_Go p.tables e below K (T92.setTop (mkF m 204 #[.val (.int q1), .val (.int q2), .val (.int q3), .val (.int (3 : Int32)), .val (.int a0), .val (.int a1), .val (.int a2), .val (.int b0), .val (.int b1), .val (.int b2), .val (.ref r90), .val (.ref r91), .val (.int (own_dom3 a0 a1 a2 b0 b1 b2)), .val (.int (1 : Int32)), .val (.int (1 : Int32))] [(.int (1 : Int32)), (.int (own_dom3 a0 a1 a2 b0 b1 b2))]))
              have hc204 : (own_dom3 a0 a1 a2 b0 b1 b2) = (1 : Int32) := by simp_all [own_dom3]
              refine own_by (fun t k => XS.icmpNo X92.here hx rfl (hb hby at_204) rfl (teq hc204).2 k) ?_
              show own_Go p.tables e below K (T92.setTop (mkF m 207 #[.val (.int q1), .val (.int q2), .val (.int q3), .val (.int (3 : Int32)), .val (.int a0), .val (.int a1), .val (.int a2), .val (.int b0), .val (.int b1), .val (.int b2), .val (.ref r90), .val (.ref r91), .val (.int (own_dom3 a0 a1 a2 b0 b1 b2)), .val (.int (1 : Int32)), .val (.int (1 : Int32))] []))
              refine own_by (fun t k => XS.iconst X92.here hx rfl (hb hby at_207) k) ?_
              show own_Go p.tables e below K (T92.setTop (mkF m 208 #[.val (.int q1), .val (.int q2), .val (.int q3), .val (.int (3 : Int32)), .val (.int a0), .val (.int a1), .val (.int a2), .val (.int b0), .val (.int b1), .val (.int b2), .val (.ref r90), .val (.ref r91), .val (.int (own_dom3 a0 a1 a2 b0 b1 b2)), .val (.int (1 : Int32)), .val (.int (1 : Int32))] [(.int (1 : Int32))]))
              refine own_by (fun t k => XS.goto X92.here hx rfl (pc0 := 208) (pc' := 212) rfl (hb hby at_208) (by decide) (by decide) k) ?_
              show own_Go p.tables e below K (T92.setTop (mkF m 212 #[.val (.int q1), .val (.int q2), .val (.int q3), .val (.int (3 : Int32)), .val (.int a0), .val (.int a1), .val (.int a2), .val (.int b0), .val (.int b1), .val (.int b2), .val (.ref r90), .val (.ref r91), .val (.int (own_dom3 a0 a1 a2 b0 b1 b2)), .val (.int (1 : Int32)), .val (.int (1 : Int32))] [(.int (1 : Int32))]))
              exact own_retZ X92 hx (t := .boolean) hret (by simp) (hb hby at_212) (hK (some (.int (1 : Int32))) X92 (fun h => by rw [hret] at h; cases h) (⟨rfl, N92⟩) (by decide) (by decide))
            · refine own_by (fun t k => XS.icmpNo X92.here hx rfl (hb hby at_153) rfl (flt hc153).1 k) ?_
              show own_Go p.tables e below K (T92.setTop (mkF m 156 #[.val (.int q1), .val (.int q2), .val (.int q3), .val (.int (3 : Int32)), .val (.int a0), .val (.int a1), .val (.int a2), .val (.int b0), .val (.int b1), .val (.int b2), .val (.ref r90), .val (.ref r91), .val (.int (own_dom3 a0 a1 a2 b0 b1 b2)), .val (.int (1 : Int32)), .unset] []))
              refine own_by (fun t k => XS.iloadN X92.here hx rfl (hb hby at_156) rfl k) ?_
              show own_Go p.tables e below K (T92.setTop (mkF m 157 #[.val (.int q1), .val (.int q2), .val (.int q3), .val (.int (3 : Int32)), .val (.int a0), .val (.int a1), .val (.int a2), .val (.int b0), .val (.int b1), .val (.int b2), .val (.ref r90), .val (.ref r91), .val (.int (own_dom3 a0 a1 a2 b0 b1 b2)), .val (.int (1 : Int32)), .unset] [(.int (3 : Int32))]))
              refine own_by (fun t k => XS.iconst X92.here hx rfl (hb hby at_157) k) ?_
              show own_Go p.tables e below K (T92.setTop (mkF m 158 #[.val (.int q1), .val (.int q2), .val (.int q3), .val (.int (3 : Int32)), .val (.int a0), .val (.int a1), .val (.int a2), .val (.int b0), .val (.int b1), .val (.int b2), .val (.ref r90), .val (.ref r91), .val (.int (own_dom3 a0 a1 a2 b0 b1 b2)), .val (.int (1 : Int32)), .unset] [(.int (2 : Int32)), (.int (3 : Int32))]))
              have hc158 : ¬ ((3 : Int32) < (2 : Int32)) := by decide
              refine own_by (fun t k => XS.icmpNo X92.here hx rfl (hb hby at_158) rfl (flt hc158).1 k) ?_
              show own_Go p.tables e below K (T92.setTop (mkF m 161 #[.val (.int q1), .val (.int q2), .val (.int q3), .val (.int (3 : Int32)), .val (.int a0), .val (.int a1), .val (.int a2), .val (.int b0), .val (.int b1), .val (.int b2), .val (.ref r90), .val (.ref r91), .val (.int (own_dom3 a0 a1 a2 b0 b1 b2)), .val (.int (1 : Int32)), .unset] []))
              refine own_by (fun t k => XS.iload X92.here hx rfl (hb hby at_161) rfl k) ?_
              show own_Go p.tables e below K (T92.setTop (mkF m 163 #[.val (.int q1), .val (.int q2), .val (.int q3), .val (.int (3 : Int32)), .val (.int a0), .val (.int a1), .val (.int a2), .val (.int b0), .val (.int b1), .val (.int b2), .val (.ref r90), .val (.ref r91), .val (.int (own_dom3 a0 a1 a2 b0 b1 b2)), .val (.int (1 : Int32)), .unset] [(.int a1)]))
              refine own_by (fun t k => XS.iload X92.here hx rfl (hb hby at_163) rfl k) ?_
              show own_Go p.tables e below K (T92.setTop (mkF m 165 #[.val (.int q1), .val (.int q2), .val (.int q3), .val (.int (3 : Int32)), .val (.int a0), .val (.int a1), .val (.int a2), .val (.int b0), .val (.int b1), .val (.int b2), .val (.ref r90), .val (.ref r91), .val (.int (own_dom3 a0 a1 a2 b0 b1 b2)), .val (.int (1 : Int32)), .unset] [(.int b1), (.int a1)]))
              by_cases hc165 : a1 < b1
              · refine own_by (fun t k => XS.icmpYes X92.here hx rfl (pc0 := 165) (pc' := 180) rfl (hb hby at_165) rfl (tlt hc165).1 (by decide) (by decide) k) ?_
                show own_Go p.tables e below K (T92.setTop (mkF m 180 #[.val (.int q1), .val (.int q2), .val (.int q3), .val (.int (3 : Int32)), .val (.int a0), .val (.int a1), .val (.int a2), .val (.int b0), .val (.int b1), .val (.int b2), .val (.ref r90), .val (.ref r91), .val (.int (own_dom3 a0 a1 a2 b0 b1 b2)), .val (.int (1 : Int32)), .unset] []))
                refine own_by (fun t k => XS.iconst X92.here hx rfl (hb hby at_180) k) ?_
                show own_Go p.tables e below K (T92.setTop (mkF m 181 #[.val (.int q1), .val (.int q2), .val (.int q3), .val (.int (3 : Int32)), .val (.int a0), .val (.int a1), .val (.int a2), .val (.int b0), .val (.int b1), .val (.int b2), .val (.ref r90), .val (.ref r91), .val (.int (own_dom3 a0 a1 a2 b0 b1 b2)), .val (.int (1 : Int32)), .unset] [(.int (1 : Int32))]))
                refine own_by (fun t k => XS.goto X92.here hx rfl (pc0 := 181) (pc' := 185) rfl (hb hby at_181) (by decide) (by decide) k) ?_
                show own_Go p.tables e below K (T92.setTop (mkF m 185 #[.val (.int q1), .val (.int q2), .val (.int q3), .val (.int (3 : Int32)), .val (.int a0), .val (.int a1), .val (.int a2), .val (.int b0), .val (.int b1), .val (.int b2), .val (.ref r90), .val (.ref r91), .val (.int (own_dom3 a0 a1 a2 b0 b1 b2)), .val (.int (1 : Int32)), .unset] [(.int (1 : Int32))]))
                refine own_by (fun t k => XS.istore X92.here hx rfl (hb hby at_185) rfl (l' := #[.val (.int q1), .val (.int q2), .val (.int q3), .val (.int (3 : Int32)), .val (.int a0), .val (.int a1), .val (.int a2), .val (.int b0), .val (.int b1), .val (.int b2), .val (.ref r90), .val (.ref r91), .val (.int (own_dom3 a0 a1 a2 b0 b1 b2)), .val (.int (1 : Int32)), .val (.int (1 : Int32))]) rfl k) ?_
                show own_Go p.tables e below K (T92.setTop (mkF m 187 #[.val (.int q1), .val (.int q2), .val (.int q3), .val (.int (3 : Int32)), .val (.int a0), .val (.int a1), .val (.int a2), .val (.int b0), .val (.int b1), .val (.int b2), .val (.ref r90), .val (.ref r91), .val (.int (own_dom3 a0 a1 a2 b0 b1 b2)), .val (.int (1 : Int32)), .val (.int (1 : Int32))] []))
                refine own_by (fun t k => XS.iload X92.here hx rfl (hb hby at_187) rfl k) ?_
                show own_Go p.tables e below K (T92.setTop (mkF m 189 #[.val (.int q1), .val (.int q2), .val (.int q3), .val (.int (3 : Int32)), .val (.int a0), .val (.int a1), .val (.int a2), .val (.int b0), .val (.int b1), .val (.int b2), .val (.ref r90), .val (.ref r91), .val (.int (own_dom3 a0 a1 a2 b0 b1 b2)), .val (.int (1 : Int32)), .val (.int (1 : Int32))] [(.int (own_dom3 a0 a1 a2 b0 b1 b2))]))
                refine own_by (fun t k => XS.iload X92.here hx rfl (hb hby at_189) rfl k) ?_
                show own_Go p.tables e below K (T92.setTop (mkF m 191 #[.val (.int q1), .val (.int q2), .val (.int q3), .val (.int (3 : Int32)), .val (.int a0), .val (.int a1), .val (.int a2), .val (.int b0), .val (.int b1), .val (.int b2), .val (.ref r90), .val (.ref r91), .val (.int (own_dom3 a0 a1 a2 b0 b1 b2)), .val (.int (1 : Int32)), .val (.int (1 : Int32))] [(.int (1 : Int32)), (.int (own_dom3 a0 a1 a2 b0 b1 b2))]))
                have hc191 : ¬ ((1 : Int32) = (0 : Int32)) := by decide
                refine own_by (fun t k => XS.ifNo X92.here hx rfl (hb hby at_191) rfl ((if0 _ _).trans (feq hc191).1) k) ?_
                show own_Go p.tables e below K (T92.setTop (mkF m 194 #[.val (.int q1), .val (.int q2), .val (.int q3), .val (.int (3 : Int32)), .val (.int a0), .val (.int a1), .val (.int a2), .val (.int b0), .val (.int b1), .val (.int b2), .val (.ref r90), .val (.ref r91), .val (.int (own_dom3 a0 a1 a2 b0 b1 b2)), .val (.int (1 : Int32)), .val (.int (1 : Int32))] [(.int (own_dom3 a0 a1 a2 b0 b1 b2))]))
                refine own_by (fun t k => XS.iload X92.here hx rfl (hb hby at_194) rfl k) ?_
                show own_Go p.tables e below K (T92.setTop (mkF m 196 #[.val (.int q1), .val (.int q2), .val (.int q3), .val (.int (3 : Int32)), .val (.int a0), .val (.int a1), .val (.int a2), .val (.int b0), .val (.int b1), .val (.int b2), .val (.ref r90), .val (.ref r91), .val (.int (own_dom3 a0 a1 a2 b0 b1 b2)), .val (.int (1 : Int32)), .val (.int (1 : Int32))] [(.int (1 : Int32)), (.int (own_dom3 a0 a1 a2 b0 b1 b2))]))
                have hc196 : ¬ ((1 : Int32) = (0 : Int32)) := by decide
                refine own_by (fun t k => XS.ifNo X92.here hx rfl (hb hby at_196) rfl ((if0 _ _).trans (feq hc196).1) k) ?_
                show own_Go p.tables e below K (T92.setTop (mkF m 199 #[.val (.int q1), .val (.int q2), .val (.int q3), .val (.int (3 : Int32)), .val (.int a0), .val (.int a1), .val (.int a2), .val (.int b0), .val (.int b1), .val (.int b2), .val (.ref r90), .val (.ref r91), .val (.int (own_dom3 a0 a1 a2 b0 b1 b2)), .val (.int (1 : Int32)), .val (.int (1 : Int32))] [(.int (own_dom3 a0 a1 a2 b0 b1 b2))]))
                refine own_by (fun t k => XS.iconst X92.here hx rfl (hb hby at_199) k) ?_
                show own_Go p.tables e below K (T92.setTop (mkF m 200 #[.val (.int q1), .val (.int q2), .val (.int q3), .val (.int (3 : Int32)), .val (.int a0), .val (.int a1), .val (.int a2), .val (.int b0), .val (.int b1), .val (.int b2), .val (.ref r90), .val (.ref r91), .val (.int (own_dom3 a0 a1 a2 b0 b1 b2)), .val (.int (1 : Int32)), .val (.int (1 : Int32))] [(.int (1 : Int32)), (.int (own_dom3 a0 a1 a2 b0 b1 b2))]))
                refine own_by (fun t k => XS.goto X92.here hx rfl (pc0 := 200) (pc' := 204) rfl (hb hby at_200) (by decide) (by decide) k) ?_
                show own_Go p.tables e below K (T92.setTop (mkF m 204 #[.val (.int q1), .val (.int q2), .val (.int q3), .val (.int (3 : Int32)), .val (.int a0), .val (.int a1), .val (.int a2), .val (.int b0), .val (.int b1), .val (.int b2), .val (.ref r90), .val (.ref r91), .val (.int (own_dom3 a0 a1 a2 b0 b1 b2)), .val (.int (1 : Int32)), .val (.int (1 : Int32))] [(.int (1 : Int32)), (.int (own_dom3 a0 a1 a2 b0 b1 b2))]))
                have hc204 : (own_dom3 a0 a1 a2 b0 b1 b2) = (1 : Int32) := by simp_all [own_dom3]
                refine own_by (fun t k => XS.icmpNo X92.here hx rfl (hb hby at_204) rfl (teq hc204).2 k) ?_
                show own_Go p.tables e below K (T92.setTop (mkF m 207 #[.val (.int q1), .val (.int q2), .val (.int q3), .val (.int (3 : Int32)), .val (.int a0), .val (.int a1), .val (.int a2), .val (.int b0), .val (.int b1), .val (.int b2), .val (.ref r90), .val (.ref r91), .val (.int (own_dom3 a0 a1 a2 b0 b1 b2)), .val (.int (1 : Int32)), .val (.int (1 : Int32))] []))
                refine own_by (fun t k => XS.iconst X92.here hx rfl (hb hby at_207) k) ?_
                show own_Go p.tables e below K (T92.setTop (mkF m 208 #[.val (.int q1), .val (.int q2), .val (.int q3), .val (.int (3 : Int32)), .val (.int a0), .val (.int a1), .val (.int a2), .val (.int b0), .val (.int b1), .val (.int b2), .val (.ref r90), .val (.ref r91), .val (.int (own_dom3 a0 a1 a2 b0 b1 b2)), .val (.int (1 : Int32)), .val (.int (1 : Int32))] [(.int (1 : Int32))]))
                refine own_by (fun t k => XS.goto X92.here hx rfl (pc0 := 208) (pc' := 212) rfl (hb hby at_208) (by decide) (by decide) k) ?_
                show own_Go p.tables e below K (T92.setTop (mkF m 212 #[.val (.int q1), .val (.int q2), .val (.int q3), .val (.int (3 : Int32)), .val (.int a0), .val (.int a1), .val (.int a2), .val (.int b0), .val (.int b1), .val (.int b2), .val (.ref r90), .val (.ref r91), .val (.int (own_dom3 a0 a1 a2 b0 b1 b2)), .val (.int (1 : Int32)), .val (.int (1 : Int32))] [(.int (1 : Int32))]))
                exact own_retZ X92 hx (t := .boolean) hret (by simp) (hb hby at_212) (hK (some (.int (1 : Int32))) X92 (fun h => by rw [hret] at h; cases h) (⟨rfl, N92⟩) (by decide) (by decide))
              · refine own_by (fun t k => XS.icmpNo X92.here hx rfl (hb hby at_165) rfl (flt hc165).1 k) ?_
                show own_Go p.tables e below K (T92.setTop (mkF m 168 #[.val (.int q1), .val (.int q2), .val (.int q3), .val (.int (3 : Int32)), .val (.int a0), .val (.int a1), .val (.int a2), .val (.int b0), .val (.int b1), .val (.int b2), .val (.ref r90), .val (.ref r91), .val (.int (own_dom3 a0 a1 a2 b0 b1 b2)), .val (.int (1 : Int32)), .unset] []))
                refine own_by (fun t k => XS.iloadN X92.here hx rfl (hb hby at_168) rfl k) ?_
                show own_Go p.tables e below K (T92.setTop (mkF m 169 #[.val (.int q1), .val (.int q2), .val (.int q3), .val (.int (3 : Int32)), .val (.int a0), .val (.int a1), .val (.int a2), .val (.int b0), .val (.int b1), .val (.int b2), .val (.ref r90), .val (.ref r91), .val (.int (own_dom3 a0 a1 a2 b0 b1 b2)), .val (.int (1 : Int32)), .unset] [(.int (3 : Int32))]))
                refine own_by (fun t k => XS.iconst X92.here hx rfl (hb hby at_169) k) ?_
                show own_Go p.tables e below K (T92.setTop (mkF m 170 #[.val (.int q1), .val (.int q2), .val (.int q3), .val (.int (3 : Int32)), .val (.int a0), .val (.int a1), .val (.int a2), .val (.int b0), .val (.int b1), .val (.int b2), .val (.ref r90), .val (.ref r91), .val (.int (own_dom3 a0 a1 a2 b0 b1 b2)), .val (.int (1 : Int32)), .unset] [(.int (3 : Int32)), (.int (3 : Int32))]))
                have hc170 : ¬ ((3 : Int32) < (3 : Int32)) := by decide
                refine own_by (fun t k => XS.icmpNo X92.here hx rfl (hb hby at_170) rfl (flt hc170).1 k) ?_
                show own_Go p.tables e below K (T92.setTop (mkF m 173 #[.val (.int q1), .val (.int q2), .val (.int q3), .val (.int (3 : Int32)), .val (.int a0), .val (.int a1), .val (.int a2), .val (.int b0), .val (.int b1), .val (.int b2), .val (.ref r90), .val (.ref r91), .val (.int (own_dom3 a0 a1 a2 b0 b1 b2)), .val (.int (1 : Int32)), .unset] []))
                refine own_by (fun t k => XS.iload X92.here hx rfl (hb hby at_173) rfl k) ?_
                show own_Go p.tables e below K (T92.setTop (mkF m 175 #[.val (.int q1), .val (.int q2), .val (.int q3), .val (.int (3 : Int32)), .val (.int a0), .val (.int a1), .val (.int a2), .val (.int b0), .val (.int b1), .val (.int b2), .val (.ref r90), .val (.ref r91), .val (.int (own_dom3 a0 a1 a2 b0 b1 b2)), .val (.int (1 : Int32)), .unset] [(.int a2)]))
                refine own_by (fun t k => XS.iload X92.here hx rfl (hb hby at_175) rfl k) ?_
                show own_Go p.tables e below K (T92.setTop (mkF m 177 #[.val (.int q1), .val (.int q2), .val (.int q3), .val (.int (3 : Int32)), .val (.int a0), .val (.int a1), .val (.int a2), .val (.int b0), .val (.int b1), .val (.int b2), .val (.ref r90), .val (.ref r91), .val (.int (own_dom3 a0 a1 a2 b0 b1 b2)), .val (.int (1 : Int32)), .unset] [(.int b2), (.int a2)]))
                by_cases hc177 : a2 < b2
                · refine own_by (fun t k => XS.icmpNo X92.here hx rfl (hb hby at_177) rfl (tlt hc177).2.1 k) ?_
                  show own_Go p.tables e below K (T92.setTop (mkF m 180 #[.val (.int q1), .val (.int q2), .val (.int q3), .val (.int (3 : Int32)), .val (.int a0), .val (.int a1), .val (.int a2), .val (.int b0), .val (.int b1), .val (.int b2), .val (.ref r90), .val (.ref r91), .val (.int (own_dom3 a0 a1 a2 b0 b1 b2)), .val (.int (1 : Int32)), .unset] []))
                  refine own_by (fun t k => XS.iconst X92.here hx rfl (hb hby at_180) k) ?_
                  show own_Go p.tables e below K (T92.setTop (mkF m 181 #[.val (.int q1), .val (.int q2), .val (.int q3), .val (.int (3 : Int32)), .val (.int a0), .val (.int a1), .val (.int a2), .val (.int b0), .val (.int b1), .val (.int b2), .val (.ref r90), .val (.ref r91), .val (.int (own_dom3 a0 a1 a2 b0 b1 b2)), .val (.int (1 : Int32)), .unset] [(.int (1 : Int32))]))
                  refine own_by (fun t k => XS.goto X92.here hx rfl (pc0 := 181) (pc' := 185) rfl (hb hby at_181) (by decide) (by decide) k) ?_
                  show own_Go p.tables e below K (T92.setTop (mkF m 185 #[.val (.int q1), .val (.int q2), .val (.int q3), .val (.int (3 : Int32)), .val (.int a0), .val (.int a1), .val (.int a2), .val (.int b0), .val (.int b1), .val (.int b2), .val (.ref r90), .val (.ref r91), .val (.int (own_dom3 a0 a1 a2 b0 b1 b2)), .val (.int (1 : Int32)), .unset] [(.int (1 : Int32))]))
                  refine own_by (fun t k => XS.istore X92.here hx rfl (hb hby at_185) rfl (l' := #[.val (.int q1), .val (.int q2), .val (.int q3), .val (.int (3 : Int32)), .val (.int a0), .val (.int a1), .val (.int a2), .val (.int b0), .val (.int b1), .val (.int b2), .val (.ref r90), .val (.ref r91), .val (.int (own_dom3 a0 a1 a2 b0 b1 b2)), .val (.int (1 : Int32)), .val (.int (1 : Int32))]) rfl k) ?_
                  show own_Go p.tables e below K (T92.setTop (mkF m 187 #[.val (.int q1), .val (.int q2), .val (.int q3), .val (.int (3 : Int32)), .val (.int a0), .val (.int a1), .val (.int a2), .val (.int b0), .val (.int b1), .val (.int b2), .val (.ref r90), .val (.ref r91), .val (.int (own_dom3 a0 a1 a2 b0 b1 b2)), .val (.int (1 : Int32)), .val (.int (1 : Int32))] []))
                  refine own_by (fun t k => XS.iload X92.here hx rfl (hb hby at_187) rfl k) ?_
                  show own_Go p.tables e below K (T92.setTop (mkF m 189 #[.val (.int q1), .val (.int q2), .val (.int q3), .val (.int (3 : Int32)), .val (.int a0), .val (.int a1), .val (.int a2), .val (.int b0), .val (.int b1), .val (.int b2), .val (.ref r90), .val (.ref r91), .val (.int (own_dom3 a0 a1 a2 b0 b1 b2)), .val (.int (1 : Int32)), .val (.int (1 : Int32))] [(.int (own_dom3 a0 a1 a2 b0 b1 b2))]))
                  refine own_by (fun t k => XS.iload X92.here hx rfl (hb hby at_189) rfl k) ?_
                  show own_Go p.tables e below K (T92.setTop (mkF m 191 #[.val (.int q1), .val (.int q2), .val (.int q3), .val (.int (3 : Int32)), .val (.int a0), .val (.int a1), .val (.int a2), .val (.int b0), .val (.int b1), .val (.int b2), .val (.ref r90), .val (.ref r91), .val (.int (own_dom3 a0 a1 a2 b0 b1 b2)), .val (.int (1 : Int32)), .val (.int (1 : Int32))] [(.int (1 : Int32)), (.int (own_dom3 a0 a1 a2 b0 b1 b2))]))
                  have hc191 : ¬ ((1 : Int32) = (0 : Int32)) := by decide
                  refine own_by (fun t k => XS.ifNo X92.here hx rfl (hb hby at_191) rfl ((if0 _ _).trans (feq hc191).1) k) ?_
                  show own_Go p.tables e below K (T92.setTop (mkF m 194 #[.val (.int q1), .val (.int q2), .val (.int q3), .val (.int (3 : Int32)), .val (.int a0), .val (.int a1), .val (.int a2), .val (.int b0), .val (.int b1), .val (.int b2), .val (.ref r90), .val (.ref r91), .val (.int (own_dom3 a0 a1 a2 b0 b1 b2)), .val (.int (1 : Int32)), .val (.int (1 : Int32))] [(.int (own_dom3 a0 a1 a2 b0 b1 b2))]))
                  refine own_by (fun t k => XS.iload X92.here hx rfl (hb hby at_194) rfl k) ?_
                  show own_Go p.tables e below K (T92.setTop (mkF m 196 #[.val (.int q1), .val (.int q2), .val (.int q3), .val (.int (3 : Int32)), .val (.int a0), .val (.int a1), .val (.int a2), .val (.int b0), .val (.int b1), .val (.int b2), .val (.ref r90), .val (.ref r91), .val (.int (own_dom3 a0 a1 a2 b0 b1 b2)), .val (.int (1 : Int32)), .val (.int (1 : Int32))] [(.int (1 : Int32)), (.int (own_dom3 a0 a1 a2 b0 b1 b2))]))
                  have hc196 : ¬ ((1 : Int32) = (0 : Int32)) := by decide
                  refine own_by (fun t k => XS.ifNo X92.here hx rfl (hb hby at_196) rfl ((if0 _ _).trans (feq hc196).1) k) ?_
                  show own_Go p.tables e below K (T92.setTop (mkF m 199 #[.val (.int q1), .val (.int q2), .val (.int q3), .val (.int (3 : Int32)), .val (.int a0), .val (.int a1), .val (.int a2), .val (.int b0), .val (.int b1), .val (.int b2), .val (.ref r90), .val (.ref r91), .val (.int (own_dom3 a0 a1 a2 b0 b1 b2)), .val (.int (1 : Int32)), .val (.int (1 : Int32))] [(.int (own_dom3 a0 a1 a2 b0 b1 b2))]))
                  refine own_by (fun t k => XS.iconst X92.here hx rfl (hb hby at_199) k) ?_
                  show own_Go p.tables e below K (T92.setTop (mkF m 200 #[.val (.int q1), .val (.int q2), .val (.int q3), .val (.int (3 : Int32)), .val (.int a0), .val (.int a1), .val (.int a2), .val (.int b0), .val (.int b1), .val (.int b2), .val (.ref r90), .val (.ref r91), .val (.int (own_dom3 a0 a1 a2 b0 b1 b2)), .val (.int (1 : Int32)), .val (.int (1 : Int32))] [(.int (1 : Int32)), (.int (own_dom3 a0 a1 a2 b0 b1 b2))]))
                  refine own_by (fun t k => XS.goto X92.here hx rfl (pc0 := 200) (pc' := 204) rfl (hb hby at_200) (by decide) (by decide) k) ?_
                  show own_Go p.tables e below K (T92.setTop (mkF m 204 #[.val (.int q1), .val (.int q2), .val (.int q3), .val (.int (3 : Int32)), .val (.int a0), .val (.int a1), .val (.int a2), .val (.int b0), .val (.int b1), .val (.int b2), .val (.ref r90), .val (.ref r91), .val (.int (own_dom3 a0 a1 a2 b0 b1 b2)), .val (.int (1 : Int32)), .val (.int (1 : Int32))] [(.int (1 : Int32)), (.int (own_dom3 a0 a1 a2 b0 b1 b2))]))
                  have hc204 : (own_dom3 a0 a1 a2 b0 b1 b2) = (1 : Int32) := by simp_all [own_dom3]
                  refine own_by (fun t k => XS.icmpNo X92.here hx rfl (hb hby at_204) rfl (teq hc204).2 k) ?_
                  show own_Go p.tables e below K (T92.setTop (mkF m 207 #[.val (.int q1), .val (.int q2), .val (.int q3), .val (.int (3 : Int32)), .val (.int a0), .val (.int a1), .val (.int a2), .val (.int b0), .val (.int b1), .val (.int b2), .val (.ref r90), .val (.ref r91), .val (.int (own_dom3 a0 a1 a2 b0 b1 b2)), .val (.int (1 : Int32)), .val (.int (1 : Int32))] []))
                  refine own_by (fun t k => XS.iconst X92.here hx rfl (hb hby at_207) k) ?_
                  show own_Go p.tables e below K (T92.setTop (mkF m 208 #[.val (.int q1), .val (.int q2), .val (.int q3), .val (.int (3 : Int32)), .val (.int a0), .val (.int a1), .val (.int a2), .val (.int b0), .val (.int b1), .val (.int b2), .val (.ref r90), .val (.ref r91), .val (.int (own_dom3 a0 a1 a2 b0 b1 b2)), .val (.int (1 : Int32)), .val (.int (1 : Int32))] [(.int (1 : Int32))]))
                  refine own_by (fun t k => XS.goto X92.here hx rfl (pc0 := 208) (pc' := 212) rfl (hb hby at_208) (by decide) (by decide) k) ?_
                  show own_Go p.tables e below K (T92.setTop (mkF m 212 #[.val (.int q1), .val (.int q2), .val (.int q3), .val (.int (3 : Int32)), .val (.int a0), .val (.int a1), .val (.int a2), .val (.int b0), .val (.int b1), .val (.int b2), .val (.ref r90), .val (.ref r91), .val (.int (own_dom3 a0 a1 a2 b0 b1 b2)), .val (.int (1 : Int32)), .val (.int (1 : Int32))] [(.int (1 : Int32))]))
                  exact own_retZ X92 hx (t := .boolean) hret (by simp) (hb hby at_212) (hK (some (.int (1 : Int32))) X92 (fun h => by rw [hret] at h; cases h) (⟨rfl, N92⟩) (by decide) (by decide))
                · refine own_by (fun t k => XS.icmpYes X92.here hx rfl (pc0 := 177) (pc' := 184) rfl (hb hby at_177) rfl (flt hc177).2.1 (by decide) (by decide) k) ?_
                  show own_Go p.tables e below K (T92.setTop (mkF m 184 #[.val (.int q1), .val (.int q2), .val (.int q3), .val (.int (3 : Int32)), .val (.int a0), .val (.int a1), .val (.int a2), .val (.int b0), .val (.int b1), .val (.int b2), .val (.ref r90), .val (.ref r91), .val (.int (own_dom3 a0 a1 a2 b0 b1 b2)), .val (.int (1 : Int32)), .unset] []))
                  refine own_by (fun t k => XS.iconst X92.here hx rfl (hb hby at_184) k) ?_
                  show own_Go p.tables e below K (T92.setTop (mkF m 185 #[.val (.int q1), .val (.int q2), .val (.int q3), .val (.int (3 : Int32)), .val (.int a0), .val (.int a1), .val (.int a2), .val (.int b0), .val (.int b1), .val (.int b2), .val (.ref r90), .val (.ref r91), .val (.int (own_dom3 a0 a1 a2 b0 b1 b2)), .val (.int (1 : Int32)), .unset] [(.int (0 : Int32))]))
                  refine own_by (fun t k => XS.istore X92.here hx rfl (hb hby at_185) rfl (l' := #[.val (.int q1), .val (.int q2), .val (.int q3), .val (.int (3 : Int32)), .val (.int a0), .val (.int a1), .val (.int a2), .val (.int b0), .val (.int b1), .val (.int b2), .val (.ref r90), .val (.ref r91), .val (.int (own_dom3 a0 a1 a2 b0 b1 b2)), .val (.int (1 : Int32)), .val (.int (0 : Int32))]) rfl k) ?_
                  show own_Go p.tables e below K (T92.setTop (mkF m 187 #[.val (.int q1), .val (.int q2), .val (.int q3), .val (.int (3 : Int32)), .val (.int a0), .val (.int a1), .val (.int a2), .val (.int b0), .val (.int b1), .val (.int b2), .val (.ref r90), .val (.ref r91), .val (.int (own_dom3 a0 a1 a2 b0 b1 b2)), .val (.int (1 : Int32)), .val (.int (0 : Int32))] []))
                  refine own_by (fun t k => XS.iload X92.here hx rfl (hb hby at_187) rfl k) ?_
                  show own_Go p.tables e below K (T92.setTop (mkF m 189 #[.val (.int q1), .val (.int q2), .val (.int q3), .val (.int (3 : Int32)), .val (.int a0), .val (.int a1), .val (.int a2), .val (.int b0), .val (.int b1), .val (.int b2), .val (.ref r90), .val (.ref r91), .val (.int (own_dom3 a0 a1 a2 b0 b1 b2)), .val (.int (1 : Int32)), .val (.int (0 : Int32))] [(.int (own_dom3 a0 a1 a2 b0 b1 b2))]))
                  refine own_by (fun t k => XS.iload X92.here hx rfl (hb hby at_189) rfl k) ?_
                  show own_Go p.tables e below K (T92.setTop (mkF m 191 #[.val (.int q1), .val (.int q2), .val (.int q3), .val (.int (3 : Int32)), .val (.int a0), .val (.int a1), .val (.int a2), .val (.int b0), .val (.int b1), .val (.int b2), .val (.ref r90), .val (.ref r91), .val (.int (own_dom3 a0 a1 a2 b0 b1 b2)), .val (.int (1 : Int32)), .val (.int (0 : Int32))] [(.int (1 : Int32)), (.int (own_dom3 a0 a1 a2 b0 b1 b2))]))
                  have hc191 : ¬ ((1 : Int32) = (0 : Int32)) := by decide
                  refine own_by (fun t k => XS.ifNo X92.here hx rfl (hb hby at_191) rfl ((if0 _ _).trans (feq hc191).1) k) ?_
                  show own_Go p.tables e below K (T92.setTop (mkF m 194 #[.val (.int q1), .val (.int q2), .val (.int q3), .val (.int (3 : Int32)), .val (.int a0), .val (.int a1), .val (.int a2), .val (.int b0), .val (.int b1), .val (.int b2), .val (.ref r90), .val (.ref r91), .val (.int (own_dom3 a0 a1 a2 b0 b1 b2)), .val (.int (1 : Int32)), .val (.int (0 : Int32))] [(.int (own_dom3 a0 a1 a2 b0 b1 b2))]))
                  refine own_by (fun t k => XS.iload X92.here hx rfl (hb hby at_194) rfl k) ?_
                  show own_Go p.tables e below K (T92.setTop (mkF m 196 #[.val (.int q1), .val (.int q2), .val (.int q3), .val (.int (3 : Int32)), .val (.int a0), .val (.int a1), .val (.int a2), .val (.int b0), .val (.int b1), .val (.int b2), .val (.ref r90), .val (.ref r91), .val (.int (own_dom3 a0 a1 a2 b0 b1 b2)), .val (.int (1 : Int32)), .val (.int (0 : Int32))] [(.int (0 : Int32)), (.int (own_dom3 a0 a1 a2 b0 b1 b2))]))
                  have hc196 : (0 : Int32) = (0 : Int32) := by decide
                  refine own_by (fun t k => XS.ifYes X92.here hx rfl (pc0 := 196) (pc' := 203) rfl (hb hby at_196) rfl ((if0 _ _).trans (teq hc196).1) (by decide) (by decide) k) ?_
                  show own_Go p.tables e below K (T92.setTop (mkF m 203 #[.val (.int q1), .val (.int q2), .val (.int q3), .val (.int (3 : Int32)), .val (.int a0), .val (.int a1), .val (.int a2), .val (.int b0), .val (.int b1), .val (.int b2), .val (.ref r90), .val (.ref r91), .val (.int (own_dom3 a0 a1 a2 b0 b1 b2)), .val (.int (1 : Int32)), .val (.int (0 : Int32))] [(.int (own_dom3 a0 a1 a2 b0 b1 b2))]))
                  refine own_by (fun t k => XS.iconst X92.here hx rfl (hb hby at_203) k) ?_
                  show own_Go p.tables e below K (T92.setTop (mkF m 204 #[.val (.int q1), .val (.int q2), .val (.int q3), .val (.int (3 : Int32)), .val (.int a0), .val (.int a1), .val (.int a2), .val (.int b0), .val (.int b1), .val (.int b2), .val (.ref r90), .val (.ref r91), .val (.int (own_dom3 a0 a1 a2 b0 b1 b2)), .val (.int (1 : Int32)), .val (.int (0 : Int32))] [(.int (0 : Int32)), (.int (own_dom3 a0 a1 a2 b0 b1 b2))]))
                  have hc204 : (own_dom3 a0 a1 a2 b0 b1 b2) = (0 : Int32) := by simp_all [own_dom3]
                  refine own_by (fun t k => XS.icmpNo X92.here hx rfl (hb hby at_204) rfl (teq hc204).2 k) ?_
                  show own_Go p.tables e below K (T92.setTop (mkF m 207 #[.val (.int q1), .val (.int q2), .val (.int q3), .val (.int (3 : Int32)), .val (.int a0), .val (.int a1), .val (.int a2), .val (.int b0), .val (.int b1), .val (.int b2), .val (.ref r90), .val (.ref r91), .val (.int (own_dom3 a0 a1 a2 b0 b1 b2)), .val (.int (1 : Int32)), .val (.int (0 : Int32))] []))
                  refine own_by (fun t k => XS.iconst X92.here hx rfl (hb hby at_207) k) ?_
                  show own_Go p.tables e below K (T92.setTop (mkF m 208 #[.val (.int q1), .val (.int q2), .val (.int q3), .val (.int (3 : Int32)), .val (.int a0), .val (.int a1), .val (.int a2), .val (.int b0), .val (.int b1), .val (.int b2), .val (.ref r90), .val (.ref r91), .val (.int (own_dom3 a0 a1 a2 b0 b1 b2)), .val (.int (1 : Int32)), .val (.int (0 : Int32))] [(.int (1 : Int32))]))
                  refine own_by (fun t k => XS.goto X92.here hx rfl (pc0 := 208) (pc' := 212) rfl (hb hby at_208) (by decide) (by decide) k) ?_
                  show own_Go p.tables e below K (T92.setTop (mkF m 212 #[.val (.int q1), .val (.int q2), .val (.int q3), .val (.int (3 : Int32)), .val (.int a0), .val (.int a1), .val (.int a2), .val (.int b0), .val (.int b1), .val (.int b2), .val (.ref r90), .val (.ref r91), .val (.int (own_dom3 a0 a1 a2 b0 b1 b2)), .val (.int (1 : Int32)), .val (.int (0 : Int32))] [(.int (1 : Int32))]))
                  exact own_retZ X92 hx (t := .boolean) hret (by simp) (hb hby at_212) (hK (some (.int (1 : Int32))) X92 (fun h => by rw [hret] at h; cases h) (⟨rfl, N92⟩) (by decide) (by decide))
  exact J68 _ _ _ _ _ _ _ (own_and3 _)
set_option maxRecDepth 65536 in
set_option maxHeartbeats 40000000 in
theorem own_comes {Post : Tables → Env → Array Value → State → Outcome → State → Prop} (hpost : ∀ tb e args s v u, (limb_1_1.after args s (.returned v) u = true ∧ limb_1_2.after args s (.returned v) u = true ∧ True) → FrameEnd s (.returned v) u (Jvm.fieldLocs frame_1_writes args s ++ Jvm.arrayLocs frame_1_arrays args s ++ Jvm.staticLocs frame_1_statics s) 16 128 → Post tb e args s (.returned v) u) :
    ArmFor flags0 classFile x code maxLocals ret World_1 tables_1 room_1 Calls_1 rest_1 Pre_1 Post := by
  intro l hfl _ _ p e ha hc hk s m args below hf hA hF happ hP
  obtain ⟨hcalls, hrest, hpre⟩ := hP
  obtain ⟨-, -, -, hnamed, -, -, -, hat⟩ := (Spec.applies_iff hf).mp happ
  obtain ⟨hg, hn⟩ := and_e (Cond.before_iff.mp (show (Jvm.Cond.and given_1 narrow_1).before args s = true from hpre))
  obtain ⟨hcount, g0⟩ := and_e hg
  obtain ⟨a0, g1⟩ := and_e g0
  obtain ⟨a1, g2⟩ := and_e g1
  obtain ⟨w0, w1, w2, rfl⟩ : ∃ w0 w1 w2 : Value, args = #[w0, w1, w2] := by
    have hs : args.size = 3 := by simpa [Cond.value, given_1] using hcount
    obtain ⟨L⟩ := args
    match L, hs with
    | [w0, w1, w2], _ => exact ⟨w0, w1, w2, rfl⟩
  have hw := fun d (hd : d ∈ tables_1) => atoms_spec (ws := Jvm.Cond.code x code maxLocals ret :: tables_1) hat d (List.mem_cons_of_mem _ hd)
  have hfit : Fit s := fun {y c} hc i hi => by
    obtain ⟨ha, rfl⟩ := Array.getElem?_eq_some_iff.mp hc
    have q := List.all_eq_true.mp ((Array.all_eq_true_iff_forall_mem.mp hF) _ (Array.getElem_mem ha)) i (List.mem_range.mpr hi)
    simpa [Array.getElem?_eq_getElem hi] using q
  obtain ⟨i0, ei0⟩ := is_v a0
  obtain rfl : w0 = (.int i0) := Option.some.inj ei0
  obtain ⟨i1, ei1⟩ := is_v a1
  obtain rfl : w1 = (.int i1) := Option.some.inj ei1
  obtain ⟨i2, ei2⟩ := is_v g2
  obtain rfl : w2 = (.int i2) := Option.some.inj ei2
  obtain ⟨n, o, h1, h2, h3, _, L, rfl, ⟨rfl, N⟩, hq⟩ := own_rm0 l s _ hw tables_1 i0 i1 i2 s.heap s.heap.size (Nat.le_refl _)  p e ha hc hk s m _ below hf ((Spec.applies_iff_loose hf).mp happ).1 ⟨rfl, State.Warmed39.refl s, rfl⟩ trivial
  refine ⟨n, _, h1, h2, h3, hpost _ _ _ _ _ _ ⟨Cond.after_iff.mpr rfl, Cond.after_iff.mpr (eq_i res_at (Term.int_eval (1)) rfl), trivial⟩ ⟨hq.1, hq.2.1, (hq.2.2.sift fun y hy => Or.inr (N y hy)).mono (by decide) (by decide)⟩⟩
theorem main_1_1 : Claimed_1_1 := own_comes fun _ _ _ _ _ _ h hF => ⟨h.1, hF⟩
theorem main_1_2 : Claimed_1_2 := own_comes fun _ _ _ _ _ _ h hF => ⟨h.2.1, hF⟩
end Jvm.Pilot.@@N@@
namespace Jvm.Pilot.@@N@@
open Jvm Jvm.ClassFile Sem Op Lib Jvm.Free Jvm.Stand Jvm.Pilot.@@N@@.Jvm.D
/-! MADE BY PROGRAM (witnessworld.py) out of the Statement's table words and the real class files: 11 classes; the members and pool entries that the words name. The judged class is class 1, her method 1. -/
namespace start1
open Jvm.ClassFile
def u (s : String) : CpInfo := .utf8 (stringToUtf16 s)
/-- a pool by its gaps: so many unusable entries, then the entry; so many at the end -/
def gap : Nat → List CpInfo → List CpInfo
  | 0, r => r
  | n + 1, r => .unusable :: gap n r
def poolList (es : List (Nat × CpInfo)) (last : Nat) : List CpInfo := es.foldr (fun e r => gap e.1 (e.2 :: r)) (gap last [])
def pool (es : List (Nat × CpInfo)) (last : Nat) : Array CpInfo := ⟨poolList es last⟩
def fileOf (pool : Array CpInfo) (this : Nat) (attrs : Array Attribute := #[]) (ms : Array MethodInfo := #[]) (fl : Nat := 33) (sup : Nat := 0) (ifs : Array Nat := #[]) (fds : Array FieldInfo := #[]) : ClassFile where
  minorVersion := 0
  majorVersion := 65
  constantPool := pool
  accessFlags := fl
  thisClass := this
  superClass := sup
  interfaces := ifs
  fields := fds
  methods := ms
  attributes := attrs
def plain (name : String) (sup : Option ClassId) : Class where
  name := name
  kind := .ordinary
  loader := none
  accessFlags := 33
  super := sup
  interfaces := #[]
  cf := none
  fields := #[]
  methods := #[]
  instanceTypes := #[]
  staticTypes := #[]
  resolved := #[]
  callSites := []
  init := .initialized
  statics := none
  mirror := none

def pool0 : Array CpInfo := pool [(5, u "<init>"), (0, u "()V"), (1, .class_ 10), (1, u "java/lang/Object")] 113

def k0m0 : Method := { name := "<init>", desc := "()V", sig := { parameters := [], returnType := none }, accessFlags := 1, code := none }
/-- java/lang/Object -/
def k0 : Class := { plain "java/lang/Object" none with
  accessFlags := 33
  interfaces := #[]
  cf := some (fileOf pool0 8 #[] #[{ accessFlags := 1, nameIndex := 5, descriptorIndex := 6, attributes := #[] }] 33 0 #[] #[])
  fields := #[]
  methods := #[k0m0]
  instanceTypes := #[]
  staticTypes := #[]
  resolved := Array.replicate 124 none
  statics := none }

def pool1 : Array CpInfo := pool [(2, .class_ 4), (1, u "java/lang/Object"), (0, u "<init>"), (0, u "()V"), (0, .methodref 8 9), (0, .class_ 10), (0, .nameAndType 11 12), (0, u "com/example/manyfront/manyfront/sorting/NondominatedSortingDominatesPinLaw"), (0, u "make"), (0, u "(IIII)[D"), (0, .methodref 14 15), (0, .class_ 16), (0, .nameAndType 17 18), (0, u "com/example/manyfront/manyfront/sorting/NondominatedSorting"), (0, u "dominates"), (0, u "([D[D)Z"), (2, u "law"), (0, u "(III)Z")] 5

def k1m0 : Method := { name := "<init>", desc := "()V", sig := { parameters := [], returnType := none }, accessFlags := 2, code := none }
def k1c1 : Code := { maxStack := 4, maxLocals := 15, code := code, exceptionTable := #[], attributes := #[] }
def k1m1 : Method := { name := "law", desc := "(III)Z", sig := { parameters := [.int, .int, .int], returnType := some .boolean }, accessFlags := 9, code := some k1c1 }
def k1c2 : Code := { maxStack := 5, maxLocals := 4, code := method_3_code, exceptionTable := #[], attributes := #[] }
def k1m2 : Method := { name := "make", desc := "(IIII)[D", sig := { parameters := [.int, .int, .int, .int], returnType := some (.array .double) }, accessFlags := 10, code := some k1c2 }
/-- com/example/manyfront/manyfront/sorting/NondominatedSortingDominatesPinLaw -/
def k1 : Class := { plain "com/example/manyfront/manyfront/sorting/NondominatedSortingDominatesPinLaw" (some 0) with
  accessFlags := 49
  interfaces := #[]
  cf := some (fileOf pool1 8 #[] #[{ accessFlags := 2, nameIndex := 5, descriptorIndex := 6, attributes := #[] }, { accessFlags := 9, nameIndex := 21, descriptorIndex := 22, attributes := #[] }, { accessFlags := 10, nameIndex := 11, descriptorIndex := 12, attributes := #[] }] 49 2 #[] #[])
  fields := #[]
  methods := #[k1m0, k1m1, k1m2]
  instanceTypes := #[]
  staticTypes := #[]
  resolved := Array.replicate 28 none
  statics := none }

def pool2 : Array CpInfo := pool [(2, .class_ 4), (1, u "java/lang/Object"), (0, u "<init>"), (0, u "()V"), (7, .class_ 16), (1, u "com/example/manyfront/manyfront/sorting/NondominatedSorting"), (75, u "dominates"), (0, u "([D[D)Z")] 56

def k2m0 : Method := { name := "<init>", desc := "()V", sig := { parameters := [], returnType := none }, accessFlags := 2, code := none }
def k2c1 : Code := { maxStack := 5, maxLocals := 4, code := prog_73_method_2_code, exceptionTable := #[], attributes := #[] }
def k2m1 : Method := { name := "dominates", desc := "([D[D)Z", sig := { parameters := [(.array .double), (.array .double)], returnType := some .boolean }, accessFlags := 9, code := some k2c1 }
/-- com/example/manyfront/manyfront/sorting/NondominatedSorting -/
def k2 : Class := { plain "com/example/manyfront/manyfront/sorting/NondominatedSorting" (some 0) with
  accessFlags := 49
  interfaces := #[]
  cf := some (fileOf pool2 14 #[] #[{ accessFlags := 2, nameIndex := 5, descriptorIndex := 6, attributes := #[] }, { accessFlags := 9, nameIndex := 92, descriptorIndex := 93, attributes := #[] }] 49 2 #[] #[])
  fields := #[]
  methods := #[k2m0, k2m1]
  instanceTypes := #[]
  staticTypes := #[]
  resolved := Array.replicate 150 none
  statics := none }

def pool3 : Array CpInfo := pool [(1, u "java/lang/Cloneable"), (0, .class_ 1), (0, u "java/lang/Object"), (0, .class_ 3)] 3

/-- java/lang/Cloneable -/
def k3 : Class := { plain "java/lang/Cloneable" (some 0) with
  accessFlags := 1537
  interfaces := #[]
  cf := some (fileOf pool3 2 #[] #[] 1537 4 #[] #[])
  fields := #[]
  methods := #[]
  instanceTypes := #[]
  staticTypes := #[]
  resolved := Array.replicate 8 none
  statics := none }

def pool4 : Array CpInfo := pool [(1, u "java/io/Serializable"), (0, .class_ 1), (0, u "java/lang/Object"), (0, .class_ 3)] 3

/-- java/io/Serializable -/
def k4 : Class := { plain "java/io/Serializable" (some 0) with
  accessFlags := 1537
  interfaces := #[]
  cf := some (fileOf pool4 2 #[] #[] 1537 4 #[] #[])
  fields := #[]
  methods := #[]
  instanceTypes := #[]
  staticTypes := #[]
  resolved := Array.replicate 8 none
  statics := none }

/-- the primitive byte -/
def k5 : Class := { plain "byte" none with kind := .primitive 'B', accessFlags := 0x411 }
/-- [B -/
def k6 : Class := { plain "[B" (some 0) with kind := .array 5 .byte, interfaces := #[3, 4], accessFlags := 1041 }

/-- the primitive double -/
def k7 : Class := { plain "double" none with kind := .primitive 'D', accessFlags := 0x411 }
/-- [D -/
def k8 : Class := { plain "[D" (some 0) with kind := .array 7 .double, interfaces := #[3, 4], accessFlags := 1041 }

/-- the primitive int -/
def k9 : Class := { plain "int" none with kind := .primitive 'I', accessFlags := 0x411 }
/-- [I -/
def k10 : Class := { plain "[I" (some 0) with kind := .array 9 .int, interfaces := #[3, 4], accessFlags := 1041 }

def heap : Heap := #[]
def classes : Array Class := #[k0, k1, k2, k3, k4, k5, k6, k7, k8, k9, k10]
def interned : List (Array UInt16 × Addr) := []
def slotsUsed : Nat := 0
def theMethod : MethodId := ⟨1, 1⟩
def args0 : Array Value := #[.int 1, .int 2, .int 3]
def aboutOver (below : List Frame) : State where
  vm := { classes := classes, interned := interned.toArray }
  heap := heap
  slotsUsed := slotsUsed
  threads := #[{ frames := .invoking theMethod args0 :: below }]
def below0 : List Frame := [.native { method := ⟨0, 0⟩, args := #[] }]
def about1 : State := aboutOver below0
def p0 : Program := .bare "" "" ""
def e0 : Env := launch0.env 0 0 0
theorem w_frames : about1.frames = Frame.invoking theMethod args0 :: below0 := rfl
set_option maxRecDepth 65536 in
theorem w_args : argsFit about1.vm theMethod args0 = true := by decide +kernel
set_option maxRecDepth 65536 in
theorem w_heap : heapFits about1 = true := by decide +kernel
set_option maxRecDepth 65536 in
theorem w_runnable : about1.curStatus? = some .runnable := by decide +kernel
set_option maxRecDepth 65536 in
theorem w_alone : about1.alone = true := by decide +kernel
set_option maxRecDepth 65536 in
theorem w_named : about1.methodNamed? x = some theMethod := by decide +kernel
set_option maxRecDepth 65536 in
theorem w_hears : about1.hears theMethod below0 = true := by decide +kernel
set_option maxRecDepth 65536 in
theorem w_ripe : about1.ripe theMethod args0 below0 = true := by decide +kernel
theorem w_running : about1.status = .running := rfl
set_option maxRecDepth 65536 in
theorem w_room : about1.hasRoom e0.platform room_1 = true :=
  launch0.hasRoom_least _ room_1 (by decide +kernel) (by decide +kernel) (by decide +kernel) (by decide +kernel) (by decide +kernel) (by decide +kernel)
theorem allAtoms_all (ts : List Jvm.Cond) (a : Array Jvm.Value) (st : Jvm.State) : (allAtoms ts).before a st = ts.all (fun c => c.before a st) := by
  induction ts with
  | nil => rfl
  | cons c t ih =>
    show (Jvm.Cond.and c (allAtoms t)).before a st = _
    rw [Jvm.Cond.before_and, ih, List.all_cons]
def words1 : List Jvm.Cond := Jvm.Cond.code x code maxLocals ret :: tables_1
/-- a 'code' word, met by the world's own term for the bytes: nothing is compared byte by byte -/
theorem code_word {y : MethodName} {bytes : ByteArray} {mx : Nat} {rt : Option FieldType} {a : Array Value} {s : State} {m : MethodId} {meth : Method} {c : Code} (h1 : s.methodNamed? y = some m) (h2 : s.vm.method? m = some meth) (h3 : meth.code = some c) (h4 : c.code = bytes)
    (h5 : (c.maxLocals == mx && c.exceptionTable.isEmpty && decide (c.maxStack ≤ mostOperands) && decide (meth.sig.returnType = rt) && !meth.locks && decide (parseMethodDescriptor y.desc = some meth.sig)) = true) : (Jvm.Cond.code y bytes mx rt).before a s = true := by
  simp only [Bool.and_eq_true, beq_iff_eq, Bool.not_eq_true', decide_eq_true_eq] at h5
  obtain ⟨⟨⟨⟨⟨g1, g2⟩, g3⟩, g4⟩, g5⟩, g6⟩ := h5
  simp [Cond.before, Cond.holds, Cond.value, h1, h2, h3, h4, g1, g2, g3, g4, g5, g6]
def isCode : Jvm.Cond → Bool
  | .code _ _ _ _ => true
  | _ => false
theorem all_split {L : List Jvm.Cond} {P : Jvm.Cond → Bool} (h1 : L.all (fun c => isCode c || P c) = true) (h2 : ∀ c ∈ L.filter isCode, P c = true) : L.all P = true := by
  refine List.all_eq_true.mpr fun c hc => ?_
  have h := List.all_eq_true.mp h1 c hc
  rcases Bool.eq_false_or_eq_true (isCode c) with hi | hi
  · exact h2 c (List.mem_filter.mpr ⟨hc, hi⟩)
  · simpa [hi] using h
set_option maxRecDepth 65536 in
theorem w_c0 : (Jvm.Cond.code x code maxLocals ret).before args0 about1 = true := code_word (m := ⟨1, 1⟩) (meth := k1m1) (c := k1c1) (by decide +kernel) rfl rfl rfl (by decide +kernel)
set_option maxRecDepth 65536 in
theorem w_c1 : (Jvm.Cond.code ({ cls := "com/example/manyfront/manyfront/sorting/NondominatedSortingDominatesPinLaw", name := "make", desc := "(IIII)[D" } : Jvm.MethodName) method_3_code (4 : Nat) (Option.some (Jvm.ClassFile.FieldType.array Jvm.ClassFile.FieldType.double))).before args0 about1 = true := code_word (m := ⟨1, 2⟩) (meth := k1m2) (c := k1c2) (by decide +kernel) rfl rfl rfl (by decide +kernel)
set_option maxRecDepth 65536 in
theorem w_c2 : (Jvm.Cond.code ({ cls := "com/example/manyfront/manyfront/sorting/NondominatedSorting", name := "dominates", desc := "([D[D)Z" } : Jvm.MethodName) prog_73_method_2_code (4 : Nat) (Option.some Jvm.ClassFile.FieldType.boolean)).before args0 about1 = true := code_word (m := ⟨2, 1⟩) (meth := k2m1) (c := k2c1) (by decide +kernel) rfl rfl rfl (by decide +kernel)
def codes1 : List Jvm.Cond := [Jvm.Cond.code x code maxLocals ret, Jvm.Cond.code ({ cls := "com/example/manyfront/manyfront/sorting/NondominatedSortingDominatesPinLaw", name := "make", desc := "(IIII)[D" } : Jvm.MethodName) method_3_code (4 : Nat) (Option.some (Jvm.ClassFile.FieldType.array Jvm.ClassFile.FieldType.double)), Jvm.Cond.code ({ cls := "com/example/manyfront/manyfront/sorting/NondominatedSorting", name := "dominates", desc := "([D[D)Z" } : Jvm.MethodName) prog_73_method_2_code (4 : Nat) (Option.some Jvm.ClassFile.FieldType.boolean)]
set_option maxRecDepth 65536 in
theorem codes_eq : words1.filter isCode = codes1 := rfl
theorem w_codes : ∀ c ∈ words1.filter isCode, c.before args0 about1 = true := by
  rw [codes_eq]
  intro c hc
  simp only [codes1, List.mem_cons, List.not_mem_nil, or_false] at hc
  rcases hc with rfl | rfl | rfl
  · exact w_c0
  · exact w_c1
  · exact w_c2
set_option maxRecDepth 65536 in
theorem w_t1 : words1.all (fun c => isCode c || c.before args0 about1) = true := by decide +kernel
theorem w_tables : (allAtoms (Jvm.Cond.code x code maxLocals ret :: tables_1)).before args0 about1 = true := by
  rw [allAtoms_all]
  show words1.all (fun c => c.before args0 about1) = true
  refine all_split ?_ w_codes
  rw [w_t1]
set_option maxRecDepth 65536 in
theorem w_case : (Jvm.Cond.and given_1 narrow_1).before args0 about1 = true := by decide +kernel
theorem w_applies : (headSpec (Jvm.Cond.code x code maxLocals ret :: tables_1) room_1).applies x e0.platform about1 = true :=
  (Spec.applies_iff w_frames).mpr ⟨w_running, w_runnable, w_alone, w_named, w_hears, w_ripe, w_room, w_tables⟩
theorem atStart : AtStart classFile x code maxLocals ret World_1 tables_1 room_1 Calls_1 rest_1 Pre_1 launch0 p0 e0 about1 theMethod args0 below0 :=
  ⟨lists_1, trivial, launch0.admits_env _ _ _, launch0.least_env, fairChoices_fair.cas, fairChoices_fair.clock, w_frames, w_args, w_heap, w_applies, trivial, trivial, w_case⟩
end start1
theorem witness_1 : WitnessClaimed_1 := ⟨start1.p0, start1.e0, start1.about1, start1.theMethod, start1.args0, start1.below0, start1.atStart⟩
end Jvm.Pilot.@@N@@
