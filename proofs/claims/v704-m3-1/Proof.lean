import JvmDerived
import JvmDerived.Pilot.@@N@@Statement
import JvmDerived.Pilot.@@N@@Code
set_option linter.unusedVariables false
set_option linter.unusedSimpArgs false
namespace Jvm.Pilot.@@N@@
open Jvm Jvm.ClassFile Sem Op Lib Jvm.Free Jvm.Stand Jvm.LawKit Jvm.RoadKit Bundle Jvm.Pilot.@@N@@.Jvm.D
/-- from U the run comes to a state of which K holds -/
def own_Go (tb : Tables) (e : Env) (below : List Frame) (K : State → Prop) (U : State) : Prop := ∃ t, Steps tb e below U t ∧ K t
theorem own_by {tb : Tables} {e : Env} {below : List Frame} {K : State → Prop} {U U' : State} (k : ∀ t, Steps tb e below U' t → Steps tb e below U t) (h : own_Go tb e below K U') : own_Go tb e below K U := by
  obtain ⟨t, a, b⟩ := h
  exact ⟨t, k t a, b⟩
/-- what a returning instruction needs: the frames that it leaves, and that K holds there -/
def own_Out (e : Env) (m : MethodId) (K : State → Prop) (T : State) (v : Option Value) : Prop := ∃ fs, (∀ (f : JFrame) (acts : List Action), f.method = m → f.locked = none → f.entered = [] → (doReturn e (T.setTop f) acts v).1 = T.setFrames fs) ∧ K (T.setFrames fs)
theorem own_met {l : Launch} {y : MethodName} {bytes : ByteArray} {ml : Nat} {ret : Option FieldType} {ws : List Jvm.Cond} {rm : Room} {as' : Array Value} {Z : State} {h0 : Heap} {k n : Nat} {Q : Option Value → Heap → List Loc → Prop} (hp : plainFor y = true)
    (body : ∀ (p : Program) (e : Env) (s : State) (m : MethodId) (below : List Frame) (meth : Method) (c : Code) (s₁ : State) (K : State → Prop), p.tables.exec = Jvm.exec → c.code = bytes → c.maxLocals = ml → s.vm.findClass y.cls = some m.cls → meth.name = y.name → meth.sig.returnType = ret →
      Z.Warmed39 s.vm → Stand p l e rm s m as' below meth c s₁ [] 0 0 → s₁.heap = h0 →
      (∀ (v : Option Value) {T : State} {L : List Loc} {k' n' : Nat}, Stand p l e rm s m as' below meth c T L k' n' → (meth.sig.returnType = none → v = none) → Q v T.heap L → k' ≤ k → n' ≤ n → own_Out e m K T v) →
      own_Go p.tables e below K (s₁.setTop (entryFrame m as' ml))) :
    MetFree l y (head1 (Jvm.Cond.code y bytes ml ret :: ws) rm) (fun a U => a = as' ∧ Z.Warmed39 U.vm ∧ U.heap = h0) (fun _ _ _ _ _ => True) (fun _ U o U' => ∃ v L, o = .returned v ∧ Q v U'.heap L ∧ FrameEnd U o U' L k n) := by
  refine MetFree.of_bodySF hp hisR ?_
  intro p e s m args below meth c s₁ Bd hml0 hP hK
  obtain ⟨rfl, hZ, hh⟩ := hP
  have hown : s.vm.findClass y.cls = some m.cls := findClass_of_methodNamed Bd.named
  obtain ⟨t, hs, o, h1, h2, h3⟩ := body p e s m below meth c s₁ (fun t => ∃ o, t.status = .running ∧ Ended t below o ∧ ∃ v L, o = .returned v ∧ Q v t.heap L ∧ FrameEnd s o t L k n) Bd.exec Bd.bytes hml0 hown (name_of_methodNamed Bd.named Bd.method).1 Bd.returns hZ (Stand.of_body Bd) (by rw [← hh, Bd.state]; rfl) (by
    intro v T L k' n' X hv hq hk hn
    obtain ⟨fs, hr, hrun, hended, hW, hsame⟩ := X.leave (v := v) hv
    exact ⟨fs, hr, _, hrun, hended, v, L, rfl, hq, ⟨_, rfl⟩, hW, hsame.mono hk hn⟩)
  exact ⟨t, o, hs, h1, h2, h3⟩
section OwnRet
variable {p : Program} {l : Launch} {e : Env} {R : Room} {s : State} {m : MethodId} {args : Array Value} {below : List Frame} {meth : Method} {c : Code} {T : State} {locs : List Loc} {cells slots : Nat} {K : State → Prop}
theorem own_retI (X : Stand p l e R s m args below meth c T locs cells slots) (hx : p.tables.exec = Jvm.exec) (hret : meth.sig.returnType = some .int) {pc : Nat} {Ls : Array Slot} {z : Int32} {rest : List Value} (hd : decode c.code pc = .ok (.ireturn, 1)) (hq : own_Out e m K T (some (.int z))) : own_Go p.tables e below K (T.setTop (mkF m pc Ls (.int z :: rest))) := by
  obtain ⟨fs, hr, hk⟩ := hq
  exact ⟨_, retOut X hx hret rfl (Or.inl ⟨rfl, Or.inl rfl, _, rfl⟩) hd hr, hk⟩
theorem own_retZ (X : Stand p l e R s m args below meth c T locs cells slots) (hx : p.tables.exec = Jvm.exec) {t : FieldType} (hret : meth.sig.returnType = some t) (ht : t = .boolean ∨ t = .byte ∨ t = .char ∨ t = .short) {pc : Nat} {Ls : Array Slot} {z : Int32} {rest : List Value} (hd : decode c.code pc = .ok (.ireturn, 1)) (hq : own_Out e m K T (some (.int (nar t z)))) : own_Go p.tables e below K (T.setTop (mkF m pc Ls (.int z :: rest))) := by
  obtain ⟨fs, hr, hk⟩ := hq
  exact ⟨_, retN X hx hret ht hd hr, hk⟩
theorem own_retJ (X : Stand p l e R s m args below meth c T locs cells slots) (hx : p.tables.exec = Jvm.exec) (hret : meth.sig.returnType = some .long) {pc : Nat} {Ls : Array Slot} {z : Int64} {rest : List Value} (hd : decode c.code pc = .ok (.lreturn, 1)) (hq : own_Out e m K T (some (.long z))) : own_Go p.tables e below K (T.setTop (mkF m pc Ls (.long z :: rest))) := by
  obtain ⟨fs, hr, hk⟩ := hq
  exact ⟨_, retOut X hx hret rfl (Or.inr (Or.inl ⟨rfl, rfl, _, rfl⟩)) hd hr, hk⟩
theorem own_retA (X : Stand p l e R s m args below meth c T locs cells slots) (hx : p.tables.exec = Jvm.exec) {t : FieldType} (hret : meth.sig.returnType = some t) (ht : t.isReference = true) {pc : Nat} {Ls : Array Slot} {w : Value} {rest : List Value} (hn : narrow t w = w) (hw : w.isRef = true) (hd : decode c.code pc = .ok (.areturn, 1)) (hq : own_Out e m K T (some w)) : own_Go p.tables e below K (T.setTop (mkF m pc Ls (w :: rest))) := by
  obtain ⟨fs, hr, hk⟩ := hq
  exact ⟨_, retOut X hx hret hn (Or.inr (Or.inr (Or.inr (Or.inr ⟨rfl, ht, hw⟩)))) hd hr, hk⟩
theorem own_retV (X : Stand p l e R s m args below meth c T locs cells slots) (hx : p.tables.exec = Jvm.exec) (hret : meth.sig.returnType = none) {pc : Nat} {Ls : Array Slot} (hd : decode c.code pc = .ok (.return_, 1)) (hq : own_Out e m K T none) : own_Go p.tables e below K (T.setTop (mkF m pc Ls [])) := by
  obtain ⟨fs, hr, hk⟩ := hq
  exact ⟨_, X.returnOut hx hret hd hr, hk⟩
end OwnRet
theorem own_nar {C : String} {w : Value} (h : w.isRef = true) : narrow (.object C) w = w := by cases w <;> rfl
theorem own_fit {C : String} {w : Value} (h : w.isRef = true) : fits (.object C) w = true := by cases w <;> first | rfl | (simp [Value.isRef] at h)
theorem own_more {p : Program} {l : Launch} {e : Env} {R : Room} {s : State} {m : MethodId} {args : Array Value} {below : List Frame} {meth : Method} {c : Code} {T : State} {locs : List Loc} {k n k' n' : Nat} (X : Stand p l e R s m args below meth c T locs k n) (hk : k ≤ k') (hn : n ≤ n') : Stand p l e R s m args below meth c T locs k' n' := { X with same := X.same.mono hk hn }
/-- a condition as 0 or 1 -/
def own_tern (x : Int32) : Int32 := if x = 0 then 0 else 1
theorem own_t0 {x : Int32} (h : x = 0) : own_tern x = 0 := if_pos h
theorem own_t1 {x : Int32} (h : ¬ x = 0) : own_tern x = 1 := if_neg h
theorem own_t01 (x : Int32) : own_tern x = 0 ∨ own_tern x = 1 := by unfold own_tern; split <;> simp
theorem own_nb {x : Int32} (h : x = 0 ∨ x = 1) : nar .boolean x = x := by rcases h with rfl | rfl <;> rfl
theorem own_b53 (x : Int32) : B53 x.toInt64 := by
  have h1 := x.toInt_lt; have h2 := x.le_toInt
  unfold B53
  rw [Int32.toInt_toInt64]
  omega
theorem own_i64 (x y : Int32) : x.toInt64 < y.toInt64 ↔ x < y := by rw [Int64.lt_iff_toInt_lt, Int32.lt_iff_toInt_lt, Int32.toInt_toInt64, Int32.toInt_toInt64]
theorem own_ni {x y : Int32} (h : ¬ x = y) {n : Int} (e : y.toInt = n) : ¬ x.toInt = n := fun q => h (Int32.toInt_inj.mp (q.trans e.symm))
theorem own_llt {x y : Int64} (h : x < y) : ifCond.holds .lt (lcmpW x y) = true ∧ ifCond.holds .ge (lcmpW x y) = false := by
  have q := tlt (by rw [lcW]; exact (lc_lt x y).mpr h : lcmpW x y < 0)
  exact ⟨(if0 _ _).trans q.1, (if0 _ _).trans q.2.1⟩
theorem own_lge {x y : Int64} (h : ¬ x < y) : ifCond.holds .lt (lcmpW x y) = false ∧ ifCond.holds .ge (lcmpW x y) = true := by
  have q := flt (by rw [lcW]; exact fun z => h ((lc_lt x y).mp z) : ¬ lcmpW x y < 0)
  exact ⟨(if0 _ _).trans q.1, (if0 _ _).trans q.2.1⟩
theorem own_lgt {x y : Int64} (h : y < x) : ifCond.holds .gt (lcmpW x y) = true ∧ ifCond.holds .le (lcmpW x y) = false := by
  have q := tlt (by rw [lcW]; exact (lc_gt x y).mpr h : 0 < lcmpW x y)
  exact ⟨(if0 _ _).trans q.2.2.1, (if0 _ _).trans q.2.2.2⟩
theorem own_lle {x y : Int64} (h : ¬ y < x) : ifCond.holds .gt (lcmpW x y) = false ∧ ifCond.holds .le (lcmpW x y) = true := by
  have q := flt (by rw [lcW]; exact fun z => h ((lc_gt x y).mp z) : ¬ 0 < lcmpW x y)
  exact ⟨(if0 _ _).trans q.2.2.1, (if0 _ _).trans q.2.2.2⟩
theorem own_leq {x y : Int64} (h : x = y) : ifCond.holds .eq (lcmpW x y) = true ∧ ifCond.holds .ne (lcmpW x y) = false := by
  have q := teq (by rw [lcW]; exact (lc_eq x y).mpr h : lcmpW x y = 0)
  exact ⟨(if0 _ _).trans q.1, (if0 _ _).trans q.2⟩
theorem own_lne {x y : Int64} (h : ¬ x = y) : ifCond.holds .eq (lcmpW x y) = false ∧ ifCond.holds .ne (lcmpW x y) = true := by
  have q := feq (by rw [lcW]; exact fun z => h ((lc_eq x y).mp z) : ¬ lcmpW x y = 0)
  exact ⟨(if0 _ _).trans q.1, (if0 _ _).trans q.2⟩
theorem own_max (x : Int32) : 0 ≤ (x &&& (2147483647 : Int32)).toInt := by
  have h : (x &&& (2147483647 : Int32)).toBitVec.toNat ≤ 2147483647 := by
    rw [Int32.toBitVec_and, BitVec.toNat_and]
    exact Nat.and_le_right
  rw [← Int32.toInt_toBitVec, BitVec.toInt_eq_toNat_cond, if_pos (by omega)]
  omega
/-- s is one of 0 .. N -/
def own_is (s : Int32) (N : Nat) : Prop := ∃ i, i ≤ N ∧ s = Int32.ofNat i
theorem own_is_of {s : Int32} {N : Nat} (h1 : 0 ≤ s.toInt) (h2 : s.toInt ≤ N) : own_is s N := by
  refine ⟨s.toInt.toNat, by omega, ?_⟩
  apply Int32.toInt_inj.mp
  have h3 := s.toInt_lt
  rw [Int32.toInt_ofNat_of_lt (by omega)]
  omega
theorem own_mod (x : Int32) (k : Int32) (n : Nat) (hk : k.toInt = n + 1) : own_is ((x &&& (2147483647 : Int32)) % k) n := by
  have h := own_max x
  have e : ((x &&& (2147483647 : Int32)) % k).toInt = (x &&& (2147483647 : Int32)).toInt % (n + 1) := by
    rw [Int32.toInt_mod, hk, Int.tmod_eq_emod_of_nonneg h]
  have h1 := Int.emod_nonneg (x &&& (2147483647 : Int32)).toInt (show (n : Int) + 1 ≠ 0 by omega)
  have h2 := Int.emod_lt_of_pos (x &&& (2147483647 : Int32)).toInt (show (0 : Int) < n + 1 by omega)
  exact own_is_of (by omega) (by omega)
theorem own_is_add {s t : Int32} {N M : Nat} (h : own_is s N) (h' : own_is t M) : own_is (s + t) (N + M) := by
  obtain ⟨i, hi, rfl⟩ := h
  obtain ⟨j, hj, rfl⟩ := h'
  exact ⟨i + j, by omega, by rw [Int32.ofNat_add]⟩
theorem own_three {x : Int32} (h : own_is x 2) : 2 + x = 2 ∨ 2 + x = 3 ∨ 2 + x = 4 := by
  obtain ⟨i, hi, rfl⟩ := h
  have : ∀ k : Fin 3, 2 + Int32.ofNat k.val = 2 ∨ 2 + Int32.ofNat k.val = 3 ∨ 2 + Int32.ofNat k.val = 4 := by decide
  exact this ⟨i, by omega⟩
theorem own_specialRef {p : Program} {l : Launch} {e : Env} {R : Room} {s : State} {m : MethodId} {args : Array Value} {below : List Frame} {meth : Method} {c : Code} {T : State} {locs : List Loc} {cells slots : Nat} {Z : State} {a0 : Array Value} (X : Stand p l e R s m args below meth c T locs cells slots) (hexec : p.tables.exec = Jvm.exec) (hZ : Z.Warmed39 s.vm) {own : String} {index : Nat} {y : MethodName} (hy1 : y.name = "<init>")
    (hown : s.vm.findClass own = some m.cls) (w : (Jvm.Cond.methodRef own index y).before a0 Z = true) (hinst : (Jvm.Cond.instanceMethod y).before args s = true) {bytes : ByteArray} {maxL : Nat} (hcode : (Jvm.Cond.code y bytes maxL none).before args s = true)
    (hy : y.cls ≠ "java/lang/invoke/MethodHandle" ∧ y.cls ≠ "java/lang/invoke/VarHandle") {W : Nat} {Pre : Pt → Array Value → Prop} {Post : Pt → Array Value → Option Value → Pt → Prop} (hK : Back l R p e below s args y 3 W Pre Post)
    {g : JFrame} (hg : g.method = m) (hsize : g.locals.size = c.maxLocals) {a : Addr} {argsL rest : List Value} (hlen : ∀ sig, parseMethodDescriptor y.desc = some sig → argsL.length = sig.parameters.length) (hstack : g.stack = argsL.reverse ++ .ref a :: rest) (hW : 2 * g.monitorRoom + (rest.map fun v => v.category).sum ≤ W)
    (hdg : decode c.code g.pc = .ok (.invokespecial index, 3)) (hpre : ∀ vm₁, s.WarmedH vm₁ → Pre ⟨T.setVm vm₁, locs, cells, slots⟩ (.ref a :: argsL).toArray) :
    ∃ (v : Option Value) (vm₁ : Vm) (B : Pt), s.WarmedH vm₁ ∧ Stand p l e R s m args below meth c B.U B.locs B.cells B.slots ∧ Post ⟨T.setVm vm₁, locs, cells, slots⟩ (.ref a :: argsL).toArray v B ∧ Steps p.tables e below (T.setTop g) (B.U.setTop { g with pc := g.pc + 3, stack := v.toList ++ rest }) := by
  subst hg
  obtain ⟨mk, methM, hnM, hmM, hstM, habM⟩ := Cond.instanceMethod_spec hinst
  obtain ⟨methM', cM, hmM', -, -, -, -, -, -, hsigM⟩ := Cond.code_spec hnM hcode
  cases hmM.symm.trans hmM'
  have hZT : Z.Warmed39 T.vm := wtrans hZ X.warmed
  have hnZ : Z.methodNamed? y = some mk := by
    have q : (Z.setVm s.vm).methodNamed? y = Z.methodNamed? y := State.methodNamed?_setVm hZ.alike y
    exact q.symm.trans hnM
  have wT := Cond.methodRef_warmed39 hZT hnZ hy w
  have hcur : (Z.setVm T.vm).vm.findClass own = some g.method.cls := by
    show T.vm.findClass own = _
    rw [X.warmed.alike.findClass]; exact hown
  obtain ⟨m', c', hm', hready, hfind, hnamed⟩ := Cond.methodRef_named e hcur wT
  have hnT : T.methodNamed? y = some mk := X.named hnM
  have hnT' : (Z.setVm T.vm).methodNamed? y = some mk := hnT
  have hmT : T.vm.method? mk = some methM := by rw [X.warmed.alike.method?]; exact hmM
  obtain ⟨kM, hkM, hnameM⟩ := className_of_methodNamed hnT
  obtain ⟨hnm, hds⟩ := name_of_methodNamed hnT hmT
  have hfc : T.vm.findClass y.cls = some mk.cls := findClass_of_methodNamed hnT
  have hcc : c' = mk.cls := Option.some.inj (hfind.symm.trans hfc)
  have hmm : m' = mk := Option.some.inj (hm'.symm.trans (State.methodFound?_of_named hnT' hy))
  subst hmm
  subst hcc
  have hfound : lookupSpecial T.vm m'.cls "<init>" methM.desc = .method m' := by
    rw [hds, ← hy1]; exact lookupSpecial_of_named hnT hmT hstM
  obtain ⟨v, B, X', hpost, hsteps⟩ := hK g.method meth c ⟨T.setVm T.vm, locs, cells, slots⟩ { g with stack := rest } (.invokespecial index) m' (.ref a :: argsL).toArray X rfl hsize hdg hW hnT (hpre T.vm X.warmed)
  refine ⟨v, T.vm, B, X.warmed, X', hpost, ?_⟩
  jvm_step X.here [hexec, hdg, invokespecial.wp_init (e := e) (s := T) (k := kM) (meth := methM) (m := m') (a := a) (args := argsL) (rest := rest) (f := g) X.here.top hnamed hready hkM hmT (by rw [hnm]; exact hy1) hstM habM hfound (hlen _ hsigM) hstack]
  intro acts
  rw [doInvoke_state]
  exact hsteps
theorem own_plain {vm : Vm} {flags : Nat} {c t d : ClassId} {ck dk : Class} (h : plainAccess vm flags c ck t d dk = true) : vm.Plain flags c ck t d dk := by
  simp only [plainAccess, Bool.or_eq_true, Bool.and_eq_true, beq_iff_eq, Bool.not_eq_true'] at h
  rcases h with ((h | h) | h) | h
  · exact Or.inl h
  · exact Or.inr (Or.inl h)
  · exact Or.inr (Or.inr (Or.inl h))
  · obtain ⟨⟨⟨h1, h2⟩, h3⟩, h4⟩ := h
    exact Or.inr (Or.inr (Or.inr ⟨h1, h2, h3, h4.elim (fun z => z.elim Or.inl fun z => Or.inr (Or.inl z)) fun z => Or.inr (Or.inr z)⟩))
theorem own_linkFF {args : Array Value} {s : State} {cls : String} {x : MethodName} {index d c : Nat} {ck ok : Class} {meth : Method} {mf : MethodId} (hd : s.vm.findClass cls = some d) (hc : s.vm.findClass x.cls = some c) (hck : s.vm.classes[c]? = some ck) (hvi : ck.isInterface = true) (hnone : ck.findMethod x.name x.desc = none)
    (hf : s.methodFound? x.cls x.name x.desc = some mf) (hok : s.vm.classes[mf.cls]? = some ok) (hm : ok.methods[mf.idx]? = some meth) (hx : x.cls ≠ "java/lang/invoke/MethodHandle" ∧ x.cls ≠ "java/lang/invoke/VarHandle") (hnc : ¬ x.name = "clone")
    (h : (Jvm.Cond.methodLink cls index x).before args s = true) (pl : Platform) (hpl : pl.magicAccessors = ({} : Platform).magicAccessors) : ∃ ci, s.vm.MethodLinksFF pl d index ci c mf ∧ s.rightAt d index (.method mf) = true := by
  have hmeth : s.vm.method? mf = some meth := by simp [Vm.method?, hok, hm]
  have hv : (Jvm.Cond.methodLink cls index x).value args s none s [] = some true := Cond.before_iff.mp h
  simp only [Cond.value, hd, hc, hf] at hv
  cases hme : s.memberEntry? cls index with
  | none => rw [hme] at hv; cases hv
  | some me =>
    obtain ⟨ci, via⟩ := me
    rw [hme] at hv
    simp only [Option.bind_eq_bind, Option.bind_eq_some_iff, Option.pure_def, hck, hok, hmeth, Option.some.injEq, exists_eq_left', Bool.and_eq_true, beq_iff_eq, bne_iff_ne, ne_eq, Option.isNone_iff_eq_none] at hv
    obtain ⟨linked, hcl, dk, hdk, ⟨⟨⟨⟨⟨⟨h1, hnm⟩, hopen⟩, hvia⟩, -⟩, -⟩, hml⟩, hacc⟩ := hv
    subst h1
    have hvt : via = true := hvia ▸ hvi
    have hpa : s.vm.Plain meth.accessFlags mf.cls ok c d dk := by
      rw [Bool.or_eq_true] at hacc
      rcases hacc with q | q
      · exact own_plain q
      · simp only [Bool.and_eq_true, beq_iff_eq] at q
        exact absurd q.1.2 hnc
    obtain ⟨cr, hcr, hlinks⟩ := State.classLinks_spec hd hcl pl hpl
    cases hc.symm.trans hcr
    obtain ⟨cp, hcp, hnames⟩ := State.names_spec hnm
    obtain ⟨dk', cf, hdk', hcf, rfl⟩ := State.poolOf?_spec hd hcp
    cases hdk.symm.trans hdk'
    obtain ⟨ci', nt, hent, hnt, -⟩ := namesOf?_method hnames
    simp only [State.memberEntry?, hcp, Option.bind_eq_bind, Option.bind_some] at hme
    rcases hent with hent | hent
    · rw [hent] at hme
      simp only [Option.some.injEq, Prod.mk.injEq] at hme
      exact absurd (hme.2.trans hvt) (by decide)
    · rw [hent] at hme
      simp only [Option.some.injEq, Prod.mk.injEq] at hme
      obtain ⟨rfl, -⟩ := hme
      obtain ⟨k₀, hk₀, hname⟩ := Vm.findClass_spec hc
      cases hck.symm.trans hk₀
      have hpoly : ∀ y, signaturePolymorphic ck y = false := fun y => by simp [signaturePolymorphic, hname, hx.1, hx.2]
      obtain ⟨dk2, cf2, nm2, _, hd2, hcf2, hl2, hn2, _⟩ := hlinks.here
      cases hdk.symm.trans hd2
      cases hcf.symm.trans hcf2
      have hne : ci' ≠ index := fun q => by
        subst q
        simp [ConstantPool.className?, hent] at hn2
      exact ⟨ci', ⟨dk, cf, nt, x.name, x.desc, ck, ok, meth, hdk, hcf, hent, hnt, hlinks, hne, hck, hvi, hpoly, hnone, State.faceFind_of_found hc hck hvi hpoly hnone hf, hok, hm, hl2.trans hml.symm, hpa, State.openOr_spec hd hdk hopen⟩, by simp [State.rightAt, hdk, hcf, hnames, hf]⟩
theorem own_faceBack {p : Program} {l : Launch} {e : Env} {R : Room} {s : State} {m : MethodId} {args : Array Value} {below : List Frame} {meth : Method} {c : Code} {T : State} {locs : List Loc} {cells slots : Nat} (X : Stand p l e R s m args below meth c T locs cells slots) (hexec : p.tables.exec = Jvm.exec) {own C J : String} {index count : Nat} {xi y : MethodName}
    (hown : s.vm.findClass own = some m.cls) (hlink : (Jvm.Cond.methodLink own index xi).before args s = true) (hdecl : (Jvm.Cond.declares ⟨J, xi.name, xi.desc⟩).before args s = true) (hface : (Jvm.Cond.interfaceMethod xi.cls J xi.name xi.desc).before args s = true) (hxo : xi.cls ≠ J) (hsel : (Jvm.Cond.selects C xi y).before args s = true) (hinst : (Jvm.Cond.instanceMethod y).before args s = true)
    (hpub : (Jvm.Cond.publicMethod y).before args s = true) (hunh : (Jvm.Cond.unhidden C xi.name xi.desc).before args s = true) (hcast : (Jvm.Cond.castable C xi.cls).before args s = true) (hx : xi.cls ≠ "java/lang/invoke/MethodHandle" ∧ xi.cls ≠ "java/lang/invoke/VarHandle") (hnc : ¬ xi.name = "clone")
    {W : Nat} {Pre : Pt → Array Value → Prop} {Post : Pt → Array Value → Option Value → Pt → Prop} (hK : Back l R p e below s args y 5 W Pre Post) {b : Addr} {cB : ClassId} {kB : Class} (hcB : s.vm.findClass C = some cB) (hkB : s.vm.classes[cB]? = some kB) (hrecv : IsOf cB T b)
    {g : JFrame} (hg : g.method = m) (hsize : g.locals.size = c.maxLocals) {s₀ : State} (hcome : Steps p.tables e below s₀ (T.setTop g)) {argsL rest : List Value} (hlen : ∀ sig, parseMethodDescriptor xi.desc = some sig → argsL.length = sig.parameters.length) (hstack : g.stack = argsL.reverse ++ .ref b :: rest) (hW : 2 * g.monitorRoom + (rest.map fun v => v.category).sum ≤ W)
    (hdg : decode c.code g.pc = .ok (.invokeinterface index count, 5)) (hpre : ∀ vm₁, s.WarmedH vm₁ → Pre ⟨T.setVm vm₁, locs, cells, slots⟩ (.ref b :: argsL).toArray) :
    ∃ (v : Option Value) (vm₁ : Vm) (B : Pt), s.WarmedH vm₁ ∧ Stand p l e R s m args below meth c B.U B.locs B.cells B.slots ∧ Post ⟨T.setVm vm₁, locs, cells, slots⟩ (.ref b :: argsL).toArray v B ∧ Steps p.tables e below s₀ (B.U.setTop { g with pc := g.pc + 5, stack := v.toList ++ rest }) := by
  subst hg
  obtain ⟨cell, hcell, hcls, hstat⟩ := hrecv
  obtain ⟨r0, r, hn, hrm, hst, hsig⟩ := Cond.declares_spec hdecl
  obtain ⟨cL, kL, r1, hcL, hkL, hiL, hfound, hn1⟩ := Cond.interfaceMethod_spec hface
  obtain rfl : r0 = r1 := Option.some.inj (hn.symm.trans hn1)
  obtain ⟨mk, methM, hnM, hmM, -, habM⟩ := Cond.instanceMethod_spec hinst
  obtain ⟨c2, r2, m2, q1, q2, q3, q4, -⟩ := Cond.selects_spec hsel
  obtain rfl : cB = c2 := Option.some.inj (hcB.symm.trans q1)
  obtain rfl : r0 = r2 := Option.some.inj (hfound.symm.trans q2)
  obtain rfl : mk = m2 := Option.some.inj (hnM.symm.trans q3)
  obtain ⟨c3, t3, w1, w2, w3⟩ := Cond.castable_spec hcast
  obtain rfl : cB = c3 := Option.some.inj (hcB.symm.trans w1)
  obtain rfl : cL = t3 := Option.some.inj (hcL.symm.trans w2)
  obtain ⟨ok, hok, hokn⟩ := className_of_methodNamed hn
  obtain ⟨hnr, hdr⟩ := name_of_methodNamed hn hrm
  have hmO : ok.methods[r0.idx]? = some r := by simpa [Vm.method?, hok] using hrm
  obtain ⟨kL', hkL', hnL⟩ := Vm.findClass_spec hcL
  obtain rfl : kL = kL' := Option.some.inj (hkL.symm.trans hkL')
  have hpoly : ∀ z, signaturePolymorphic kL z = false := fun z => by simp [signaturePolymorphic, hnL, hx.1, hx.2]
  have hnone : kL.findMethod xi.name xi.desc = none := by
    cases hj : kL.findMethod xi.name xi.desc with
    | none => rfl
    | some j =>
      have hs : (kL.methods[j]?).isSome := by
        obtain ⟨hlt, -, -⟩ := Array.findIdx?_eq_some_iff_getElem.mp hj
        simp [hlt]
      have h2 := State.methodFound?_declared hcL hkL hpoly hj hs
      have e1 : r0 = ⟨cL, j⟩ := Option.some.inj (hfound.symm.trans h2)
      rw [e1] at hok
      obtain rfl : kL = ok := Option.some.inj (hkL.symm.trans hok)
      exact absurd (hnL.symm.trans hokn) hxo
  have hpl : e.platform.magicAccessors = ({} : Platform).magicAccessors := by rw [X.admits.platform]
  obtain ⟨ci, hl, hright⟩ := own_linkFF hown hcL hkL hiL hnone hfound hok hmO hx hnc hlink e.platform hpl
  have hE : s.MethodEntryUp e T.vm g.method.cls index cL r0 ci := State.methodEntryFF X.warmed hl hright
  obtain ⟨dk, cf, nt, _, _, ck, _, _, hd, hcf, hcp, -, -, -, hck, hvia, -⟩ := hl.here
  obtain rfl : kL = ck := Option.some.inj (hkL.symm.trans hck)
  have al := hE.warmed.alike
  obtain ⟨dk₂, hdk₂, hres⟩ := hE.classReady
  obtain ⟨dk₃, hdk₃, hed⟩ := al.2.2 _ _ hd
  obtain rfl : dk₂ = dk₃ := Option.some.inj (hdk₂.symm.trans hdk₃)
  obtain ⟨k₂, hk₂, hek⟩ := al.2.2 _ _ hkL
  obtain ⟨kc₂, hkc₂, -⟩ := al.2.2 _ _ hkB
  have hselT : selectMethod e.platform (T.vm.calledUp g.method.cls ci index cL r0) cell.cls r0 = .method mk := by
    rw [al.selectMethod, Launch.admits_selectMethod X.admits, hcls]; exact q4
  have hway : ((cell.cls :: (T.vm.calledUp g.method.cls ci index cL r0).superclasses cell.cls).any fun k => (declaredIn (T.vm.calledUp g.method.cls ci index cL r0) r.name r.desc k).any fun (_, z) => z.isPrivate || z.isStatic) = false := by
    simp only [al.superclasses, al.declaredIn]
    rw [hnr, hdr, hcls]
    exact Cond.unhidden_spec hcB hunh
  have X₁ := X.noted hE.warmed
  obtain ⟨v, B, X', hpost, hsteps⟩ := hK g.method meth c ⟨T.setVm (T.vm.calledUp g.method.cls ci index cL r0), locs, cells, slots⟩ { g with stack := rest } (.invokeinterface index count) mk (Value.ref b :: argsL).toArray X₁ rfl hsize hdg hW (X₁.named hnM) (hpre (T.vm.calledUp g.method.cls ci index cL r0) hE.warmed)
  refine ⟨v, T.vm.calledUp g.method.cls ci index cL r0, B, hE.warmed, X', hpost, hcome.trans ?_⟩
  jvm_step X.here [hexec, hdg, invokeinterface.wp_coldFace (e := e) (s := T) (s₀ := s) (f := g) (count := count) X.here.top X.warmed hE hd hcf (Or.inr hcp) hck hvia,
    invokeinterface.wp_ready (e := e) (s := T.setVm (T.vm.calledUp g.method.cls ci index cL r0)) (f := g) (count := count) (r := r) (meth := methM) (m := mk) (args := argsL) (rest := rest) (cell := cell) (kcell := kc₂) (ck := dk₂) (nk := k₂) (cf := cf) (ci := ci) (nt := nt) (named := cL)
      X.here.top hE.ready ((al.method? _).trans hrm) hst (hlen _ hsig) hstack hcell (fun z q => by rw [q] at hstat; cases hstat) (by rw [hcls]; exact hkc₂) hdk₂ (by rw [hed]; exact hcf) hcp hres hk₂ (by rw [hek]; exact hvia)
      (by show (T.vm.calledUp g.method.cls ci index cL r0).assignable cell.cls cL = true; rw [al.assignable, hcls]; exact w3) hselT ((al.method? _).trans hmM) (Or.inr (Or.inr hway)) (Or.inl (Cond.publicMethod_spec hnM hmM hpub)) habM]
  intro acts
  rw [doInvoke_state]
  exact hsteps
theorem own_faceMv {Z s : State} {a0 args : Array Value} {r J n d : String} (hZ : Z.Warmed39 s.vm) (w : (Jvm.Cond.interfaceMethod r J n d).before a0 Z = true) : (Jvm.Cond.interfaceMethod r J n d).before args s = true := by
  obtain ⟨c, k, m, h1, h2, h3, h4, h5⟩ := Cond.interfaceMethod_spec w
  obtain ⟨k', q1, q2⟩ := hZ.alike.2.2 _ _ h2
  have e0 : s.vm.findClass r = some c := by rw [hZ.alike.findClass]; exact h1
  have e1 : s.methodFound? r n d = some m := (State.methodFound?_setVm (s := Z) hZ.alike r n d).trans h4
  have e2 : s.methodNamed? ⟨J, n, d⟩ = some m := (State.methodNamed?_setVm (s := Z) hZ.alike ⟨J, n, d⟩).trans h5
  have e3 : k'.isInterface = true := by rw [q2]; exact h3
  simp [Cond.before, Cond.holds, Cond.value, e0, e1, e2, e3, q1]
def own_mx (a b : Int64) : Int64 := if a < b then b else a
/-- an empty ArrayList -/
def own_AL (Z : State) (h : Heap) (a : Addr) : Prop := Exa Z h a "java/util/ArrayList" ∧ Fld Z h a "java/util/AbstractList" "modCount" "I" (.int 0) ∧ Fld Z h a "java/util/ArrayList" "size" "I" (.int 0)
/-- an Object[17] -/
def own_Ar (Z : State) (h : Heap) (a : Addr) (k : ClassId) : Prop := ∃ cl : Cell, Arr Z h a cl (.object "java/lang/Object") ∧ cl.slots.size = 17 ∧ cl.cls = k
theorem own_Ar.ext {Z : State} {h h' : Heap} {a : Addr} {k : ClassId} (F : own_Ar Z h a k) (E : Ext h h') : own_Ar Z h' a k := by obtain ⟨cl, A, r⟩ := F; exact ⟨cl, A.ext E, r⟩
theorem own_Ar.keep {Z : State} {h h' : Heap} {a : Addr} {k : ClassId} {ws : List Addr} (F : own_Ar Z h a k) (K : Keep h h' ws) (q : a ∉ ws) : own_Ar Z h' a k := by obtain ⟨cl, A, r⟩ := F; exact ⟨cl, ⟨K.2.1 a cl A.1 q, A.2⟩, r⟩
theorem own_Ar.other {Z : State} {h h' : Heap} {a b : Addr} {k : ClassId} {sl : Nat} {v : Value} (F : own_Ar Z h a k) (W : Wr h h' b sl v) (q : a ≠ b) : own_Ar Z h' a k := by obtain ⟨cl, A, r⟩ := F; exact ⟨cl, A.other W q, r⟩
theorem own_Ar.same {Z : State} {h h' : Heap} {a : Addr} {k : ClassId} {sl : Nat} {v : Value} (F : own_Ar Z h a k) (W : Wr h h' a sl v) : own_Ar Z h' a k := by obtain ⟨cl, A, r1, r2⟩ := F; exact ⟨_, A.same W, (sz_set _ _ _).trans r1, r2⟩
theorem own_Ar.lt {Z : State} {h : Heap} {a : Addr} {k : ClassId} (F : own_Ar Z h a k) : a < h.size := by obtain ⟨cl, A, -⟩ := F; exact A.lt
theorem own_Ar.ne {Z : State} {h : Heap} {a x : Addr} {k : ClassId} {C : String} {a0 : Array Value} {n : Nat} (E : Exa Z h x C) (F : own_Ar Z h a k) (w : (Jvm.Cond.instantiable C n).before a0 Z = true) : x ≠ a := by obtain ⟨cl, A, -⟩ := F; exact ne_arr E w A
/-- an ArrayDeque that begins at 0 and ends at tl -/
def own_DQ (Z : State) (h : Heap) (a el : Addr) (k : ClassId) (tl : Int32) : Prop := Exa Z h a "java/util/ArrayDeque" ∧ Fld Z h a "java/util/ArrayDeque" "elements" "[Ljava/lang/Object;" (.ref el) ∧ Fld Z h a "java/util/ArrayDeque" "head" "I" (.int 0) ∧ Fld Z h a "java/util/ArrayDeque" "tail" "I" (.int tl) ∧ own_Ar Z h el k ∧ Ovr Z k "java/lang/Object"
/-- a HashMap without a table -/
def own_HM (Z : State) (h : Heap) (a : Addr) (mc : Int32) : Prop := Exa Z h a "java/util/HashMap" ∧ Fld Z h a "java/util/HashMap" "modCount" "I" (.int mc) ∧ Fld Z h a "java/util/HashMap" "table" "[Ljava/util/HashMap$Node;" .null
def own_FT (Z : State) (h : Heap) (a hm dq el : Addr) (k : ClassId) (mc tl : Int32) (la : Int64) : Prop := Exa Z h a "com/example/predicate/predicate/engine/FoldedTransactions" ∧ Fld Z h a "com/example/predicate/predicate/engine/FoldedTransactions" "tables" "Ljava/util/Map;" (.ref hm) ∧ Fld Z h a "com/example/predicate/predicate/engine/FoldedTransactions" "pivots" "Ljava/util/Deque;" (.ref dq) ∧ Fld Z h a "com/example/predicate/predicate/engine/FoldedTransactions" "pivotWrites" "J" (.long 0) ∧ Fld Z h a "com/example/predicate/predicate/engine/FoldedTransactions" "last" "J" (.long la) ∧ own_HM Z h hm mc ∧ own_DQ Z h dq el k tl
/-- an iterator over the empty list al -/
def own_It (Z : State) (h : Heap) (a al : Addr) : Prop := Exa Z h a "java/util/ArrayList$Itr" ∧ Fld Z h a "java/util/ArrayList$Itr" "this$0" "Ljava/util/ArrayList;" (.ref al) ∧ Fld Z h a "java/util/ArrayList$Itr" "cursor" "I" (.int 0)
def own_emp (la : Int64) : Int32 := if la = 0 then 1 else 0
def own_seen (la q : Int64) : Int32 := if q < la then 0 else 1
def own_inc (i m : Int32) : Int32 := if i + 1 < m then i + 1 else 0
def own_fgt (la q : Int64) : Int64 := if la = 0 then 0 else if q < la then la else 0
theorem own_d1_0 : decode jdk_29_method_66_code 0 = .ok (.lload_n 0, 1) := by decide +kernel
theorem own_d1_1 : decode jdk_29_method_66_code 1 = .ok (.lload_n 2, 1) := by decide +kernel
theorem own_d1_2 : decode jdk_29_method_66_code 2 = .ok (.lcmp, 1) := by decide +kernel
theorem own_d1_3 : decode jdk_29_method_66_code 3 = .ok (.ifCond .lt 7, 3) := by decide +kernel
theorem own_d1_6 : decode jdk_29_method_66_code 6 = .ok (.lload_n 0, 1) := by decide +kernel
theorem own_d1_7 : decode jdk_29_method_66_code 7 = .ok (.goto 4, 3) := by decide +kernel
theorem own_d1_10 : decode jdk_29_method_66_code 10 = .ok (.lload_n 2, 1) := by decide +kernel
theorem own_d1_11 : decode jdk_29_method_66_code 11 = .ok (.lreturn, 1) := by decide +kernel
theorem own_efmx (m : MethodId) (q1 : Int64) (q2 : Int64) : entryFrame m #[(.long q1), (.long q2)] 4 = mkF m 0 #[.val (.long q1), .second, .val (.long q2), .second] [] := by first | (simp [entryFrame, mkF, argsToLocals, Value.category]; done) | rfl
def own_Qmx (Z : State) (q1 : Int64) (q2 : Int64) (h0 : Heap) (n0 : Nat) (v : Option Value) (h : Heap) (L : List Loc) : Prop := v = some (.long (own_mx q1 q2)) ∧ Fr n0 L ∧ h = h0
set_option maxRecDepth 65536 in
set_option maxHeartbeats 40000000 in
theorem own_rmmx (l : Launch) (Z : State) (aw : Array Value) (hw : ∀ d ∈ tables_1, d.before aw Z = true) (ws : List Jvm.Cond) (q1 : Int64) (q2 : Int64) (h0 : Heap) (n0 : Nat) (Z0 : n0 ≤ h0.size)  :
    MetFree l (⟨"java/lang/Math", "max", "(JJ)J"⟩ : MethodName) (head1 (Jvm.Cond.code (⟨"java/lang/Math", "max", "(JJ)J"⟩ : MethodName) jdk_29_method_66_code 4 (some .long) :: ws) ({ frames := 0, cells := 0, slots := 0, locals := 0 } : Room)) (fun a U => a = #[(.long q1), (.long q2)] ∧ Z.Warmed39 U.vm ∧ U.heap = h0) (fun _ _ _ _ _ => True) (fun _ U o U' => ∃ v L, o = .returned v ∧ own_Qmx Z q1 q2 h0 n0 v U'.heap L ∧ FrameEnd U o U' L ({ frames := 0, cells := 0, slots := 0, locals := 0 } : Room).cells ({ frames := 0, cells := 0, slots := 0, locals := 0 } : Room).slots) := by
  refine own_met (Q := own_Qmx Z q1 q2 h0 n0) (Jvm.Free.JP.mathPlain rfl (by decide +kernel)) ?_
  intro p e s m below meth c s₁ K hx hby hml hown hnm hret hZ X0 e0 hK
  have hown : s.vm.findClass "java/lang/Math" = some m.cls := hown
  have N0 := Fr.nil n0
  refine own_by (fun t k => castTop (own_efmx m q1 q2) k) ?_
  show own_Go p.tables e below K (s₁.setTop (mkF m 0 #[.val (.long q1), .second, .val (.long q2), .second] []))
  refine own_by (fun t k => XS.lloadN X0.here hx rfl (hb hby own_d1_0) rfl k) ?_
  show own_Go p.tables e below K (s₁.setTop (mkF m 1 #[.val (.long q1), .second, .val (.long q2), .second] [(.long q1)]))
  refine own_by (fun t k => XS.lloadN X0.here hx rfl (hb hby own_d1_1) rfl k) ?_
  show own_Go p.tables e below K (s₁.setTop (mkF m 2 #[.val (.long q1), .second, .val (.long q2), .second] [(.long q2), (.long q1)]))
  refine own_by (fun t k => XS.lcmp X0.here hx rfl (hb hby own_d1_2) rfl k) ?_
  show own_Go p.tables e below K (s₁.setTop (mkF m 3 #[.val (.long q1), .second, .val (.long q2), .second] [(.int (lcmpW q1 q2))]))
  by_cases hc3 : q1 < q2
  · refine own_by (fun t k => XS.ifYes X0.here hx rfl (pc0 := 3) (pc' := 10) rfl (hb hby own_d1_3) rfl (own_llt hc3).1 (by decide) (by decide) k) ?_
    show own_Go p.tables e below K (s₁.setTop (mkF m 10 #[.val (.long q1), .second, .val (.long q2), .second] []))
    refine own_by (fun t k => XS.lloadN X0.here hx rfl (hb hby own_d1_10) rfl k) ?_
    show own_Go p.tables e below K (s₁.setTop (mkF m 11 #[.val (.long q1), .second, .val (.long q2), .second] [(.long q2)]))
    exact own_retJ X0 hx hret (hb hby own_d1_11) (hK (some (.long q2)) X0 (fun h => by rw [hret] at h; cases h) (⟨by simp [own_mx, *], N0, e0⟩) (by decide) (by decide))
  · refine own_by (fun t k => XS.ifNo X0.here hx rfl (hb hby own_d1_3) rfl (own_lge hc3).1 k) ?_
    show own_Go p.tables e below K (s₁.setTop (mkF m 6 #[.val (.long q1), .second, .val (.long q2), .second] []))
    refine own_by (fun t k => XS.lloadN X0.here hx rfl (hb hby own_d1_6) rfl k) ?_
    show own_Go p.tables e below K (s₁.setTop (mkF m 7 #[.val (.long q1), .second, .val (.long q2), .second] [(.long q1)]))
    refine own_by (fun t k => XS.goto X0.here hx rfl (pc0 := 7) (pc' := 11) rfl (hb hby own_d1_7) (by decide) (by decide) k) ?_
    show own_Go p.tables e below K (s₁.setTop (mkF m 11 #[.val (.long q1), .second, .val (.long q2), .second] [(.long q1)]))
    exact own_retJ X0 hx hret (hb hby own_d1_11) (hK (some (.long q1)) X0 (fun h => by rw [hret] at h; cases h) (⟨by simp [own_mx, *], N0, e0⟩) (by decide) (by decide))
theorem own_pn4 : plainName "java/util/AbstractCollection" = true := by first | (simp [plainName, overriddenIn]; done) | decide +kernel
theorem own_d4_0 : decode jdk_22_method_1_code 0 = .ok (.aload_n 0, 1) := by decide +kernel
theorem own_d4_1 : decode jdk_22_method_1_code 1 = .ok (.invokespecial 1, 3) := by decide +kernel
theorem own_d4_4 : decode jdk_22_method_1_code 4 = .ok (.return_, 1) := by decide +kernel
theorem own_efaci (m : MethodId) (a1 : Addr) : entryFrame m #[(.ref a1)] 1 = mkF m 0 #[.val (.ref a1)] [] := by first | (simp [entryFrame, mkF, argsToLocals, Value.category]; done) | rfl
def own_Qaci (Z : State) (a1 : Addr) (h0 : Heap) (n0 : Nat) (v : Option Value) (h : Heap) (L : List Loc) : Prop := v = none ∧ Fr n0 L ∧ h = h0
set_option maxRecDepth 65536 in
set_option maxHeartbeats 40000000 in
theorem own_rmaci (l : Launch) (Z : State) (aw : Array Value) (hw : ∀ d ∈ tables_1, d.before aw Z = true) (ws : List Jvm.Cond) (a1 : Addr) (h0 : Heap) (n0 : Nat) (Z0 : n0 ≤ h0.size)  :
    MetFree l (⟨"java/util/AbstractCollection", "<init>", "()V"⟩ : MethodName) (head1 (Jvm.Cond.code (⟨"java/util/AbstractCollection", "<init>", "()V"⟩ : MethodName) jdk_22_method_1_code 1 none :: ws) ({ frames := 1, cells := 0, slots := 0, locals := 12 } : Room)) (fun a U => a = #[(.ref a1)] ∧ Z.Warmed39 U.vm ∧ U.heap = h0) (fun _ _ _ _ _ => True) (fun _ U o U' => ∃ v L, o = .returned v ∧ own_Qaci Z a1 h0 n0 v U'.heap L ∧ FrameEnd U o U' L ({ frames := 1, cells := 0, slots := 0, locals := 12 } : Room).cells ({ frames := 1, cells := 0, slots := 0, locals := 12 } : Room).slots) := by
  refine own_met (Q := own_Qaci Z a1 h0 n0) (plainFor_of_name own_pn4) ?_
  intro p e s m below meth c s₁ K hx hby hml hown hnm hret hZ X0 e0 hK
  have hown : s.vm.findClass "java/util/AbstractCollection" = some m.cls := hown
  have hnm : meth.name = "<init>" := hnm
  have N0 := Fr.nil n0
  refine own_by (fun t k => castTop (own_efaci m a1) k) ?_
  show own_Go p.tables e below K (s₁.setTop (mkF m 0 #[.val (.ref a1)] []))
  refine own_by (fun t k => XS.aloadN X0.here hx rfl (hb hby own_d4_0) rfl rfl k) ?_
  show own_Go p.tables e below K (s₁.setTop (mkF m 1 #[.val (.ref a1)] [(.ref a1)]))
  obtain ⟨T1, X1, e1, st1⟩ := initO X0 hx hZ hown (hw _ (List.mem_of_getElem? (i := 24) rfl)) (hw _ (List.mem_of_getElem? (i := 25) rfl)) (hw _ (List.mem_of_getElem? (i := 26) rfl)) e0 (g := (mkF m 1 #[.val (.ref a1)] [(.ref a1)])) rfl (by rw [hml]; rfl) rfl (hb hby own_d4_1) (by decide) (W := 0) (by show 2 * 0 + _ ≤ _; exact Nat.le_of_eq rfl) (by decide)
  refine own_by st1 ?_
  show own_Go p.tables e below K (T1.setTop (mkF m 4 #[.val (.ref a1)] []))
  exact own_retV X1 hx hret (hb hby own_d4_4) (hK none X1 (fun _ => rfl) (⟨rfl, N0, e1⟩) (by decide) (by decide))
theorem own_pn8 : plainName "java/util/AbstractMap" = true := by first | (simp [plainName, overriddenIn]; done) | decide +kernel
theorem own_d8_0 : decode jdk_71_method_1_code 0 = .ok (.aload_n 0, 1) := by decide +kernel
theorem own_d8_1 : decode jdk_71_method_1_code 1 = .ok (.invokespecial 1, 3) := by decide +kernel
theorem own_d8_4 : decode jdk_71_method_1_code 4 = .ok (.return_, 1) := by decide +kernel
theorem own_efami (m : MethodId) (a1 : Addr) : entryFrame m #[(.ref a1)] 1 = mkF m 0 #[.val (.ref a1)] [] := by first | (simp [entryFrame, mkF, argsToLocals, Value.category]; done) | rfl
def own_Qami (Z : State) (a1 : Addr) (h0 : Heap) (n0 : Nat) (v : Option Value) (h : Heap) (L : List Loc) : Prop := v = none ∧ Fr n0 L ∧ h = h0
set_option maxRecDepth 65536 in
set_option maxHeartbeats 40000000 in
theorem own_rmami (l : Launch) (Z : State) (aw : Array Value) (hw : ∀ d ∈ tables_1, d.before aw Z = true) (ws : List Jvm.Cond) (a1 : Addr) (h0 : Heap) (n0 : Nat) (Z0 : n0 ≤ h0.size)  :
    MetFree l (⟨"java/util/AbstractMap", "<init>", "()V"⟩ : MethodName) (head1 (Jvm.Cond.code (⟨"java/util/AbstractMap", "<init>", "()V"⟩ : MethodName) jdk_71_method_1_code 1 none :: ws) ({ frames := 1, cells := 0, slots := 0, locals := 12 } : Room)) (fun a U => a = #[(.ref a1)] ∧ Z.Warmed39 U.vm ∧ U.heap = h0) (fun _ _ _ _ _ => True) (fun _ U o U' => ∃ v L, o = .returned v ∧ own_Qami Z a1 h0 n0 v U'.heap L ∧ FrameEnd U o U' L ({ frames := 1, cells := 0, slots := 0, locals := 12 } : Room).cells ({ frames := 1, cells := 0, slots := 0, locals := 12 } : Room).slots) := by
  refine own_met (Q := own_Qami Z a1 h0 n0) (plainFor_of_name own_pn8) ?_
  intro p e s m below meth c s₁ K hx hby hml hown hnm hret hZ X0 e0 hK
  have hown : s.vm.findClass "java/util/AbstractMap" = some m.cls := hown
  have hnm : meth.name = "<init>" := hnm
  have N0 := Fr.nil n0
  refine own_by (fun t k => castTop (own_efami m a1) k) ?_
  show own_Go p.tables e below K (s₁.setTop (mkF m 0 #[.val (.ref a1)] []))
  refine own_by (fun t k => XS.aloadN X0.here hx rfl (hb hby own_d8_0) rfl rfl k) ?_
  show own_Go p.tables e below K (s₁.setTop (mkF m 1 #[.val (.ref a1)] [(.ref a1)]))
  obtain ⟨T2, X2, e2, st2⟩ := initO X0 hx hZ hown (hw _ (List.mem_of_getElem? (i := 51) rfl)) (hw _ (List.mem_of_getElem? (i := 25) rfl)) (hw _ (List.mem_of_getElem? (i := 26) rfl)) e0 (g := (mkF m 1 #[.val (.ref a1)] [(.ref a1)])) rfl (by rw [hml]; rfl) rfl (hb hby own_d8_1) (by decide) (W := 0) (by show 2 * 0 + _ ≤ _; exact Nat.le_of_eq rfl) (by decide)
  refine own_by st2 ?_
  show own_Go p.tables e below K (T2.setTop (mkF m 4 #[.val (.ref a1)] []))
  exact own_retV X2 hx hret (hb hby own_d8_4) (hK none X2 (fun _ => rfl) (⟨rfl, N0, e2⟩) (by decide) (by decide))
theorem own_pn16 : plainName "java/lang/Record" = true := by first | (simp [plainName, overriddenIn]; done) | decide +kernel
theorem own_d16_0 : decode jdk_30_method_1_code 0 = .ok (.aload_n 0, 1) := by decide +kernel
theorem own_d16_1 : decode jdk_30_method_1_code 1 = .ok (.invokespecial 1, 3) := by decide +kernel
theorem own_d16_4 : decode jdk_30_method_1_code 4 = .ok (.return_, 1) := by decide +kernel
theorem own_efrci (m : MethodId) (a1 : Addr) : entryFrame m #[(.ref a1)] 1 = mkF m 0 #[.val (.ref a1)] [] := by first | (simp [entryFrame, mkF, argsToLocals, Value.category]; done) | rfl
def own_Qrci (Z : State) (a1 : Addr) (h0 : Heap) (n0 : Nat) (v : Option Value) (h : Heap) (L : List Loc) : Prop := v = none ∧ Fr n0 L ∧ h = h0
set_option maxRecDepth 65536 in
set_option maxHeartbeats 40000000 in
theorem own_rmrci (l : Launch) (Z : State) (aw : Array Value) (hw : ∀ d ∈ tables_1, d.before aw Z = true) (ws : List Jvm.Cond) (a1 : Addr) (h0 : Heap) (n0 : Nat) (Z0 : n0 ≤ h0.size)  :
    MetFree l (⟨"java/lang/Record", "<init>", "()V"⟩ : MethodName) (head1 (Jvm.Cond.code (⟨"java/lang/Record", "<init>", "()V"⟩ : MethodName) jdk_30_method_1_code 1 none :: ws) ({ frames := 1, cells := 0, slots := 0, locals := 12 } : Room)) (fun a U => a = #[(.ref a1)] ∧ Z.Warmed39 U.vm ∧ U.heap = h0) (fun _ _ _ _ _ => True) (fun _ U o U' => ∃ v L, o = .returned v ∧ own_Qrci Z a1 h0 n0 v U'.heap L ∧ FrameEnd U o U' L ({ frames := 1, cells := 0, slots := 0, locals := 12 } : Room).cells ({ frames := 1, cells := 0, slots := 0, locals := 12 } : Room).slots) := by
  refine own_met (Q := own_Qrci Z a1 h0 n0) (plainFor_of_name own_pn16) ?_
  intro p e s m below meth c s₁ K hx hby hml hown hnm hret hZ X0 e0 hK
  have hown : s.vm.findClass "java/lang/Record" = some m.cls := hown
  have hnm : meth.name = "<init>" := hnm
  have N0 := Fr.nil n0
  refine own_by (fun t k => castTop (own_efrci m a1) k) ?_
  show own_Go p.tables e below K (s₁.setTop (mkF m 0 #[.val (.ref a1)] []))
  refine own_by (fun t k => XS.aloadN X0.here hx rfl (hb hby own_d16_0) rfl rfl k) ?_
  show own_Go p.tables e below K (s₁.setTop (mkF m 1 #[.val (.ref a1)] [(.ref a1)]))
  obtain ⟨T3, X3, e3, st3⟩ := initO X0 hx hZ hown (hw _ (List.mem_of_getElem? (i := 134) rfl)) (hw _ (List.mem_of_getElem? (i := 25) rfl)) (hw _ (List.mem_of_getElem? (i := 26) rfl)) e0 (g := (mkF m 1 #[.val (.ref a1)] [(.ref a1)])) rfl (by rw [hml]; rfl) rfl (hb hby own_d16_1) (by decide) (W := 0) (by show 2 * 0 + _ ≤ _; exact Nat.le_of_eq rfl) (by decide)
  refine own_by st3 ?_
  show own_Go p.tables e below K (T3.setTop (mkF m 4 #[.val (.ref a1)] []))
  exact own_retV X3 hx hret (hb hby own_d16_4) (hK none X3 (fun _ => rfl) (⟨rfl, N0, e3⟩) (by decide) (by decide))
theorem own_pd0 : parseMethodDescriptor "()V" = some ⟨[], none⟩ := by decide +kernel
theorem own_pn3 : plainName "java/util/AbstractList" = true := by first | (simp [plainName, overriddenIn]; done) | decide +kernel
theorem own_d3_0 : decode jdk_39_method_1_code 0 = .ok (.aload_n 0, 1) := by decide +kernel
theorem own_d3_1 : decode jdk_39_method_1_code 1 = .ok (.invokespecial 1, 3) := by decide +kernel
theorem own_d3_4 : decode jdk_39_method_1_code 4 = .ok (.aload_n 0, 1) := by decide +kernel
theorem own_d3_5 : decode jdk_39_method_1_code 5 = .ok (.iconst 0, 1) := by decide +kernel
theorem own_d3_6 : decode jdk_39_method_1_code 6 = .ok (.putfield 7, 3) := by decide +kernel
theorem own_d3_9 : decode jdk_39_method_1_code 9 = .ok (.return_, 1) := by decide +kernel
theorem own_efali (m : MethodId) (a1 : Addr) : entryFrame m #[(.ref a1)] 1 = mkF m 0 #[.val (.ref a1)] [] := by first | (simp [entryFrame, mkF, argsToLocals, Value.category]; done) | rfl
def own_Qali (Z : State) (a1 : Addr)  (h0 : Heap) (n0 : Nat) (v : Option Value) (h : Heap) (L : List Loc) : Prop := v = none ∧ Fr n0 L ∧ Keep h0 h [a1] ∧ Exa Z h a1 "java/util/ArrayList" ∧ Fld Z h a1 "java/util/AbstractList" "modCount" "I" (.int 0) ∧ Fld Z h a1 "java/util/ArrayList" "elementData" "[Ljava/lang/Object;" .null ∧ Fld Z h a1 "java/util/ArrayList" "size" "I" (.int 0)
set_option maxRecDepth 65536 in
set_option maxHeartbeats 40000000 in
theorem own_rmali (l : Launch) (Z : State) (aw : Array Value) (hw : ∀ d ∈ tables_1, d.before aw Z = true) (ws : List Jvm.Cond) (a1 : Addr)  (h0 : Heap) (n0 : Nat) (Z0 : n0 ≤ h0.size) (E0 : Exa Z h0 a1 "java/util/ArrayList") (ga : n0 ≤ a1) (F0_modCount : Fld Z h0 a1 "java/util/AbstractList" "modCount" "I" (.int (0 : Int32))) (F0_elementData : Fld Z h0 a1 "java/util/ArrayList" "elementData" "[Ljava/lang/Object;" .null) (F0_size : Fld Z h0 a1 "java/util/ArrayList" "size" "I" (.int (0 : Int32)))  :
    MetFree l (⟨"java/util/AbstractList", "<init>", "()V"⟩ : MethodName) (head1 (Jvm.Cond.code (⟨"java/util/AbstractList", "<init>", "()V"⟩ : MethodName) jdk_39_method_1_code 1 none :: ws) ({ frames := 2, cells := 0, slots := 0, locals := 24 } : Room)) (fun a U => a = #[(.ref a1)] ∧ Z.Warmed39 U.vm ∧ U.heap = h0) (fun _ _ _ _ _ => True) (fun _ U o U' => ∃ v L, o = .returned v ∧ own_Qali Z a1 h0 n0 v U'.heap L ∧ FrameEnd U o U' L ({ frames := 2, cells := 0, slots := 0, locals := 24 } : Room).cells ({ frames := 2, cells := 0, slots := 0, locals := 24 } : Room).slots) := by
  refine own_met (Q := own_Qali Z a1 h0 n0) (plainFor_of_name own_pn3) ?_
  intro p e s m below meth c s₁ K hx hby hml hown hnm hret hZ X0 e0 hK
  have hown : s.vm.findClass "java/util/AbstractList" = some m.cls := hown
  have hnm : meth.name = "<init>" := hnm
  have N0 := Fr.nil n0
  refine own_by (fun t k => castTop (own_efali m a1) k) ?_
  show own_Go p.tables e below K (s₁.setTop (mkF m 0 #[.val (.ref a1)] []))
  refine own_by (fun t k => XS.aloadN X0.here hx rfl (hb hby own_d3_0) rfl rfl k) ?_
  show own_Go p.tables e below K (s₁.setTop (mkF m 1 #[.val (.ref a1)] [(.ref a1)]))
  obtain ⟨_, _, ⟨T4, L4, k4, n4⟩, -, X4, ⟨Lc4, hQ4, l4, y4, z4⟩, st4⟩ := X0.specialBack hx (y := (⟨"java/util/AbstractCollection", "<init>", "()V"⟩ : MethodName)) rfl hown (mvT hZ (hw _ (List.mem_of_getElem? (i := 18) rfl))) (mvT hZ (hw _ (List.mem_of_getElem? (i := 19) rfl))) (mvT hZ (hw _ (List.mem_of_getElem? (i := 23) rfl))) (by decide) (backOf (W := 0) (own_rmaci l Z aw hw [] a1 h0 n0 Z0) hZ (hw _ (List.mem_of_getElem? (i := 23) rfl)) (hw _ (List.mem_of_getElem? (i := 22) rfl)) (by decide) (by decide)) (g := (mkF m 1 #[.val (.ref a1)] [(.ref a1)])) rfl (by rw [hml]; rfl) (Steps.refl _) (a := a1) (argsL := []) (rest := []) (lenOf own_pd0 rfl) rfl (by show 2 * 0 + _ ≤ _; exact Nat.le_of_eq rfl) (hb hby own_d3_1) (fun _ _ => ⟨rfl, e0, (by decide : 0 + 0 ≤ _), (by decide : 0 + 0 ≤ _)⟩)
  dsimp only [Pt.U, Pt.locs, Pt.cells, Pt.slots] at X4 l4 y4 z4 st4 hQ4
  subst l4 y4 z4
  obtain ⟨rfl, N4q, e4⟩ := hQ4
  have N4 := Fr.app N0 N4q
  refine own_by (fun t k => st4.trans k) ?_
  show own_Go p.tables e below K (T4.setTop (mkF m 4 #[.val (.ref a1)] []))
  refine own_by (fun t k => XS.aloadN X4.here hx rfl (hb hby own_d3_4) rfl rfl k) ?_
  show own_Go p.tables e below K (T4.setTop (mkF m 5 #[.val (.ref a1)] [(.ref a1)]))
  refine own_by (fun t k => XS.iconst X4.here hx rfl (hb hby own_d3_5) k) ?_
  show own_Go p.tables e below K (T4.setTop (mkF m 6 #[.val (.ref a1)] [(.int (0 : Int32)), (.ref a1)]))
  obtain ⟨T5, h5, X5, e5, W5, st5⟩ := putF X4 hx hZ hown (host := "") (Or.inl (hw _ (List.mem_of_getElem? (i := 27) rfl))) Via.refl e4 F0_modCount E0 (Or.inl (hw _ (List.mem_of_getElem? (i := 28) rfl))) (hw _ (List.mem_of_getElem? (i := 7) rfl)) (ty := .int) (by decide) rfl rfl (g := (mkF m 6 #[.val (.ref a1)] [(.int (0 : Int32)), (.ref a1)])) rfl rfl (hb hby own_d3_6)
  refine own_by st5 ?_
  have F5_modCount_a1 := F0_modCount.same W5
  have F5_elementData_a1 := F0_elementData.other W5 (Or.inr (slot_ne (Or.inl (hw _ (List.mem_of_getElem? (i := 31) rfl))) (Or.inl (hw _ (List.mem_of_getElem? (i := 28) rfl))) (by decide) (t := (.array (.object "java/lang/Object"))) (t' := .int) (by decide) (by decide)))
  have F5_size_a1 := F0_size.other W5 (Or.inr (slot_ne (Or.inl (hw _ (List.mem_of_getElem? (i := 120) rfl))) (Or.inl (hw _ (List.mem_of_getElem? (i := 28) rfl))) (by decide) (t := .int) (t' := .int) (by decide) (by decide)))
  have Ex5_a1 := E0.wr W5
  have K5 := (Keep.refl h0 [a1]).wr W5 (Or.inl (by simp))
  have Z5 := Nat.le_trans Z0 (Keep.of_wr W5).1
  have N5 := Fr.snoc X5 N4 ga
  show own_Go p.tables e below K (T5.setTop (mkF m 9 #[.val (.ref a1)] []))
  exact own_retV X5 hx hret (hb hby own_d3_9) (hK none X5 (fun _ => rfl) (by rw [e5]; exact ⟨rfl, N5, K5, Ex5_a1, F5_modCount_a1, F5_elementData_a1, F5_size_a1⟩) (by decide) (by decide))
theorem own_pn2 : plainName "java/util/ArrayList" = true := by first | (simp [plainName, overriddenIn]; done) | decide +kernel
theorem own_d2_0 : decode jdk_38_method_2_code 0 = .ok (.aload_n 0, 1) := by decide +kernel
theorem own_d2_1 : decode jdk_38_method_2_code 1 = .ok (.invokespecial 1, 3) := by decide +kernel
theorem own_d2_4 : decode jdk_38_method_2_code 4 = .ok (.aload_n 0, 1) := by decide +kernel
theorem own_d2_5 : decode jdk_38_method_2_code 5 = .ok (.getstatic 39, 3) := by decide +kernel
theorem own_d2_8 : decode jdk_38_method_2_code 8 = .ok (.putfield 9, 3) := by decide +kernel
theorem own_d2_11 : decode jdk_38_method_2_code 11 = .ok (.return_, 1) := by decide +kernel
theorem own_efaln (m : MethodId) (a1 : Addr) : entryFrame m #[(.ref a1)] 1 = mkF m 0 #[.val (.ref a1)] [] := by first | (simp [entryFrame, mkF, argsToLocals, Value.category]; done) | rfl
def own_Qaln (Z : State) (a1 : Addr) (dd : Addr) (h0 : Heap) (n0 : Nat) (v : Option Value) (h : Heap) (L : List Loc) : Prop := v = none ∧ Fr n0 L ∧ Keep h0 h [a1] ∧ own_AL Z h a1
set_option maxRecDepth 65536 in
set_option maxHeartbeats 40000000 in
theorem own_rmaln (l : Launch) (Z : State) (aw : Array Value) (hw : ∀ d ∈ tables_1, d.before aw Z = true) (ws : List Jvm.Cond) (a1 : Addr) (dd : Addr) (h0 : Heap) (n0 : Nat) (Z0 : n0 ≤ h0.size) (E0 : Exa Z h0 a1 "java/util/ArrayList") (ga : n0 ≤ a1) (F0_modCount : Fld Z h0 a1 "java/util/AbstractList" "modCount" "I" (.int (0 : Int32))) (F0_elementData : Fld Z h0 a1 "java/util/ArrayList" "elementData" "[Ljava/lang/Object;" .null) (F0_size : Fld Z h0 a1 "java/util/ArrayList" "size" "I" (.int (0 : Int32))) (O0 : Old Z n0 h0) (S0 : Sta Z Z.heap "java/util/ArrayList" "DEFAULTCAPACITY_EMPTY_ELEMENTDATA" "[Ljava/lang/Object;" (.ref dd)) :
    MetFree l (⟨"java/util/ArrayList", "<init>", "()V"⟩ : MethodName) (head1 (Jvm.Cond.code (⟨"java/util/ArrayList", "<init>", "()V"⟩ : MethodName) jdk_38_method_2_code 1 none :: ws) ({ frames := 3, cells := 0, slots := 0, locals := 36 } : Room)) (fun a U => a = #[(.ref a1)] ∧ Z.Warmed39 U.vm ∧ U.heap = h0) (fun _ _ _ _ _ => True) (fun _ U o U' => ∃ v L, o = .returned v ∧ own_Qaln Z a1 dd h0 n0 v U'.heap L ∧ FrameEnd U o U' L ({ frames := 3, cells := 0, slots := 0, locals := 36 } : Room).cells ({ frames := 3, cells := 0, slots := 0, locals := 36 } : Room).slots) := by
  refine own_met (Q := own_Qaln Z a1 dd h0 n0) (plainFor_of_name own_pn2) ?_
  intro p e s m below meth c s₁ K hx hby hml hown hnm hret hZ X0 e0 hK
  have hown : s.vm.findClass "java/util/ArrayList" = some m.cls := hown
  have hnm : meth.name = "<init>" := hnm
  have N0 := Fr.nil n0
  refine own_by (fun t k => castTop (own_efaln m a1) k) ?_
  show own_Go p.tables e below K (s₁.setTop (mkF m 0 #[.val (.ref a1)] []))
  refine own_by (fun t k => XS.aloadN X0.here hx rfl (hb hby own_d2_0) rfl rfl k) ?_
  show own_Go p.tables e below K (s₁.setTop (mkF m 1 #[.val (.ref a1)] [(.ref a1)]))
  obtain ⟨_, _, ⟨T6, L6, k6, n6⟩, -, X6, ⟨Lc6, hQ6, l6, y6, z6⟩, st6⟩ := X0.specialBack hx (y := (⟨"java/util/AbstractList", "<init>", "()V"⟩ : MethodName)) rfl hown (mvT hZ (hw _ (List.mem_of_getElem? (i := 12) rfl))) (mvT hZ (hw _ (List.mem_of_getElem? (i := 13) rfl))) (mvT hZ (hw _ (List.mem_of_getElem? (i := 17) rfl))) (by decide) (backOf (W := 0) (own_rmali l Z aw hw [] a1 h0 n0 Z0 E0 ga F0_modCount F0_elementData F0_size) hZ (hw _ (List.mem_of_getElem? (i := 17) rfl)) (hw _ (List.mem_of_getElem? (i := 16) rfl)) (by decide) (by decide)) (g := (mkF m 1 #[.val (.ref a1)] [(.ref a1)])) rfl (by rw [hml]; rfl) (Steps.refl _) (a := a1) (argsL := []) (rest := []) (lenOf own_pd0 rfl) rfl (by show 2 * 0 + _ ≤ _; exact Nat.le_of_eq rfl) (hb hby own_d2_1) (fun _ _ => ⟨rfl, e0, (by decide : 0 + 0 ≤ _), (by decide : 0 + 0 ≤ _)⟩)
  dsimp only [Pt.U, Pt.locs, Pt.cells, Pt.slots] at X6 l6 y6 z6 st6 hQ6
  subst l6 y6 z6
  obtain ⟨rfl, N6q, Kp6, Xp6, F1p6, F2p6, F3p6⟩ := hQ6
  have N6 := Fr.app N0 N6q
  refine own_by (fun t k => st6.trans k) ?_
  have Ex6_a1 := E0.keep Kp6
  have K6 := (Keep.refl h0 [a1]).trans Kp6 (allS (Or.inl (by simp)) (all0))
  have Z6 := Nat.le_trans Z0 Kp6.1
  have O6 := O0.keep Kp6 (allS ga (all0))
  show own_Go p.tables e below K (T6.setTop (mkF m 4 #[.val (.ref a1)] []))
  refine own_by (fun t k => XS.aloadN X6.here hx rfl (hb hby own_d2_4) rfl rfl k) ?_
  show own_Go p.tables e below K (T6.setTop (mkF m 5 #[.val (.ref a1)] [(.ref a1)]))
  obtain ⟨T7, X7, e7, st7⟩ := getS2 X6 hx hZ hown (host := "") (Or.inl (hw _ (List.mem_of_getElem? (i := 29) rfl))) Via.refl rfl (S0.ext O6.2) (g := (mkF m 5 #[.val (.ref a1)] [(.ref a1)])) rfl (hb hby own_d2_5)
  refine own_by st7 ?_
  show own_Go p.tables e below K (T7.setTop (mkF m 8 #[.val (.ref a1)] [(.ref dd), (.ref a1)]))
  obtain ⟨T8, h8, X8, e8, W8, st8⟩ := putF X7 hx hZ hown (host := "") (Or.inl (hw _ (List.mem_of_getElem? (i := 30) rfl))) Via.refl e7 F2p6 Xp6 (Or.inl (hw _ (List.mem_of_getElem? (i := 31) rfl))) (hw _ (List.mem_of_getElem? (i := 7) rfl)) (ty := (.array (.object "java/lang/Object"))) (by decide) rfl rfl (g := (mkF m 8 #[.val (.ref a1)] [(.ref dd), (.ref a1)])) rfl rfl (hb hby own_d2_8)
  refine own_by st8 ?_
  have F8_modCount_a1 := F1p6.other W8 (Or.inr (slot_ne (Or.inl (hw _ (List.mem_of_getElem? (i := 28) rfl))) (Or.inl (hw _ (List.mem_of_getElem? (i := 31) rfl))) (by decide) (t := .int) (t' := (.array (.object "java/lang/Object"))) (by decide) (by decide)))
  have F8_elementData_a1 := F2p6.same W8
  have F8_size_a1 := F3p6.other W8 (Or.inr (slot_ne (Or.inl (hw _ (List.mem_of_getElem? (i := 120) rfl))) (Or.inl (hw _ (List.mem_of_getElem? (i := 31) rfl))) (by decide) (t := .int) (t' := (.array (.object "java/lang/Object"))) (by decide) (by decide)))
  have Ex8_a1 := Xp6.wr W8
  have K8 := K6.wr W8 (Or.inl (by simp))
  have Z8 := Nat.le_trans Z6 (Keep.of_wr W8).1
  have O8 := O6.wr W8 ga
  have N8 := Fr.snoc X8 N6 ga
  show own_Go p.tables e below K (T8.setTop (mkF m 11 #[.val (.ref a1)] []))
  exact own_retV X8 hx hret (hb hby own_d2_11) (hK none X8 (fun _ => rfl) (by rw [e8]; exact ⟨rfl, N8, K8, ⟨Ex8_a1, F8_modCount_a1, F8_size_a1⟩⟩) (by decide) (by decide))
theorem own_pn7 : plainName "java/util/HashMap" = true := by first | (simp [plainName, overriddenIn]; done) | decide +kernel
theorem own_d7_0 : decode jdk_69_method_7_code 0 = .ok (.aload_n 0, 1) := by decide +kernel
theorem own_d7_1 : decode jdk_69_method_7_code 1 = .ok (.invokespecial 43, 3) := by decide +kernel
theorem own_d7_4 : decode jdk_69_method_7_code 4 = .ok (.aload_n 0, 1) := by decide +kernel
theorem own_d7_5 : decode jdk_69_method_7_code 5 = .ok (.ldc 92, 2) := by decide +kernel
theorem own_d7_7 : decode jdk_69_method_7_code 7 = .ok (.putfield 81, 3) := by decide +kernel
theorem own_d7_10 : decode jdk_69_method_7_code 10 = .ok (.return_, 1) := by decide +kernel
theorem own_efhmn (m : MethodId) (a1 : Addr) : entryFrame m #[(.ref a1)] 1 = mkF m 0 #[.val (.ref a1)] [] := by first | (simp [entryFrame, mkF, argsToLocals, Value.category]; done) | rfl
def own_Qhmn (Z : State) (a1 : Addr)  (h0 : Heap) (n0 : Nat) (v : Option Value) (h : Heap) (L : List Loc) : Prop := v = none ∧ Fr n0 L ∧ Keep h0 h [a1] ∧ own_HM Z h a1 0
set_option maxRecDepth 65536 in
set_option maxHeartbeats 40000000 in
theorem own_rmhmn (l : Launch) (Z : State) (aw : Array Value) (hw : ∀ d ∈ tables_1, d.before aw Z = true) (ws : List Jvm.Cond) (a1 : Addr)  (h0 : Heap) (n0 : Nat) (Z0 : n0 ≤ h0.size) (E0 : Exa Z h0 a1 "java/util/HashMap") (ga : n0 ≤ a1) (F0_loadFactor : Fld Z h0 a1 "java/util/HashMap" "loadFactor" "F" (.float (0 : UInt32))) (F0_modCount : Fld Z h0 a1 "java/util/HashMap" "modCount" "I" (.int (0 : Int32))) (F0_table : Fld Z h0 a1 "java/util/HashMap" "table" "[Ljava/util/HashMap$Node;" .null)  :
    MetFree l (⟨"java/util/HashMap", "<init>", "()V"⟩ : MethodName) (head1 (Jvm.Cond.code (⟨"java/util/HashMap", "<init>", "()V"⟩ : MethodName) jdk_69_method_7_code 1 none :: ws) ({ frames := 2, cells := 0, slots := 0, locals := 24 } : Room)) (fun a U => a = #[(.ref a1)] ∧ Z.Warmed39 U.vm ∧ U.heap = h0) (fun _ _ _ _ _ => True) (fun _ U o U' => ∃ v L, o = .returned v ∧ own_Qhmn Z a1 h0 n0 v U'.heap L ∧ FrameEnd U o U' L ({ frames := 2, cells := 0, slots := 0, locals := 24 } : Room).cells ({ frames := 2, cells := 0, slots := 0, locals := 24 } : Room).slots) := by
  refine own_met (Q := own_Qhmn Z a1 h0 n0) (plainFor_of_name own_pn7) ?_
  intro p e s m below meth c s₁ K hx hby hml hown hnm hret hZ X0 e0 hK
  have hown : s.vm.findClass "java/util/HashMap" = some m.cls := hown
  have hnm : meth.name = "<init>" := hnm
  have N0 := Fr.nil n0
  refine own_by (fun t k => castTop (own_efhmn m a1) k) ?_
  show own_Go p.tables e below K (s₁.setTop (mkF m 0 #[.val (.ref a1)] []))
  refine own_by (fun t k => XS.aloadN X0.here hx rfl (hb hby own_d7_0) rfl rfl k) ?_
  show own_Go p.tables e below K (s₁.setTop (mkF m 1 #[.val (.ref a1)] [(.ref a1)]))
  obtain ⟨_, _, ⟨T9, L9, k9, n9⟩, -, X9, ⟨Lc9, hQ9, l9, y9, z9⟩, st9⟩ := X0.specialBack hx (y := (⟨"java/util/AbstractMap", "<init>", "()V"⟩ : MethodName)) rfl hown (mvT hZ (hw _ (List.mem_of_getElem? (i := 45) rfl))) (mvT hZ (hw _ (List.mem_of_getElem? (i := 46) rfl))) (mvT hZ (hw _ (List.mem_of_getElem? (i := 50) rfl))) (by decide) (backOf (W := 0) (own_rmami l Z aw hw [] a1 h0 n0 Z0) hZ (hw _ (List.mem_of_getElem? (i := 50) rfl)) (hw _ (List.mem_of_getElem? (i := 49) rfl)) (by decide) (by decide)) (g := (mkF m 1 #[.val (.ref a1)] [(.ref a1)])) rfl (by rw [hml]; rfl) (Steps.refl _) (a := a1) (argsL := []) (rest := []) (lenOf own_pd0 rfl) rfl (by show 2 * 0 + _ ≤ _; exact Nat.le_of_eq rfl) (hb hby own_d7_1) (fun _ _ => ⟨rfl, e0, (by decide : 0 + 0 ≤ _), (by decide : 0 + 0 ≤ _)⟩)
  dsimp only [Pt.U, Pt.locs, Pt.cells, Pt.slots] at X9 l9 y9 z9 st9 hQ9
  subst l9 y9 z9
  obtain ⟨rfl, N9q, e9⟩ := hQ9
  have N9 := Fr.app N0 N9q
  refine own_by (fun t k => st9.trans k) ?_
  show own_Go p.tables e below K (T9.setTop (mkF m 4 #[.val (.ref a1)] []))
  refine own_by (fun t k => XS.aloadN X9.here hx rfl (hb hby own_d7_4) rfl rfl k) ?_
  show own_Go p.tables e below K (T9.setTop (mkF m 5 #[.val (.ref a1)] [(.ref a1)]))
  refine own_by (fun t k => X9.ldcFloatC hx hown (mvT hZ (hw _ (List.mem_of_getElem? (i := 52) rfl))) (g := (mkF m 5 #[.val (.ref a1)] [(.ref a1)])) rfl (hb hby own_d7_5) _ k) ?_
  show own_Go p.tables e below K (T9.setTop (mkF m 7 #[.val (.ref a1)] [(.float (1061158912 : UInt32)), (.ref a1)]))
  obtain ⟨T10, h10, X10, e10, W10, st10⟩ := putF X9 hx hZ hown (host := "") (Or.inl (hw _ (List.mem_of_getElem? (i := 53) rfl))) Via.refl e9 F0_loadFactor E0 (Or.inr ⟨(hw _ (List.mem_of_getElem? (i := 54) rfl)), rfl, hnm⟩) (hw _ (List.mem_of_getElem? (i := 40) rfl)) (ty := .float) (by decide) rfl rfl (g := (mkF m 7 #[.val (.ref a1)] [(.float (1061158912 : UInt32)), (.ref a1)])) rfl rfl (hb hby own_d7_7)
  refine own_by st10 ?_
  have F10_loadFactor_a1 := F0_loadFactor.same W10
  have F10_modCount_a1 := F0_modCount.other W10 (Or.inr (slot_ne (Or.inl (hw _ (List.mem_of_getElem? (i := 194) rfl))) (Or.inr (hw _ (List.mem_of_getElem? (i := 54) rfl))) (by decide) (t := .int) (t' := .float) (by decide) (by decide)))
  have F10_table_a1 := F0_table.other W10 (Or.inr (slot_ne (Or.inl (hw _ (List.mem_of_getElem? (i := 196) rfl))) (Or.inr (hw _ (List.mem_of_getElem? (i := 54) rfl))) (by decide) (t := (.array (.object "java/util/HashMap$Node"))) (t' := .float) (by decide) (by decide)))
  have Ex10_a1 := E0.wr W10
  have K10 := (Keep.refl h0 [a1]).wr W10 (Or.inl (by simp))
  have Z10 := Nat.le_trans Z0 (Keep.of_wr W10).1
  have N10 := Fr.snoc X10 N9 ga
  show own_Go p.tables e below K (T10.setTop (mkF m 10 #[.val (.ref a1)] []))
  exact own_retV X10 hx hret (hb hby own_d7_10) (hK none X10 (fun _ => rfl) (by rw [e10]; exact ⟨rfl, N10, K10, ⟨Ex10_a1, F10_modCount_a1, F10_table_a1⟩⟩) (by decide) (by decide))
theorem own_pn9 : plainName "java/util/ArrayDeque" = true := by first | (simp [plainName, overriddenIn]; done) | decide +kernel
theorem own_d9_0 : decode jdk_21_method_3_code 0 = .ok (.aload_n 0, 1) := by decide +kernel
theorem own_d9_1 : decode jdk_21_method_3_code 1 = .ok (.invokespecial 42, 3) := by decide +kernel
theorem own_d9_4 : decode jdk_21_method_3_code 4 = .ok (.aload_n 0, 1) := by decide +kernel
theorem own_d9_5 : decode jdk_21_method_3_code 5 = .ok (.bipush 17, 2) := by decide +kernel
theorem own_d9_7 : decode jdk_21_method_3_code 7 = .ok (.anewarray 47, 3) := by decide +kernel
theorem own_d9_10 : decode jdk_21_method_3_code 10 = .ok (.putfield 3, 3) := by decide +kernel
theorem own_d9_13 : decode jdk_21_method_3_code 13 = .ok (.return_, 1) := by decide +kernel
theorem own_efdqn (m : MethodId) (a1 : Addr) : entryFrame m #[(.ref a1)] 1 = mkF m 0 #[.val (.ref a1)] [] := by first | (simp [entryFrame, mkF, argsToLocals, Value.category]; done) | rfl
def own_Qdqn (Z : State) (a1 : Addr)  (h0 : Heap) (n0 : Nat) (v : Option Value) (h : Heap) (L : List Loc) : Prop := v = none ∧ Fr n0 L ∧ Keep h0 h [a1] ∧ ∃ (el : Addr) (k : ClassId), n0 ≤ el ∧ own_DQ Z h a1 el k 0
set_option maxRecDepth 65536 in
set_option maxHeartbeats 40000000 in
theorem own_rmdqn (l : Launch) (Z : State) (aw : Array Value) (hw : ∀ d ∈ tables_1, d.before aw Z = true) (ws : List Jvm.Cond) (a1 : Addr)  (h0 : Heap) (n0 : Nat) (Z0 : n0 ≤ h0.size) (E0 : Exa Z h0 a1 "java/util/ArrayDeque") (ga : n0 ≤ a1) (F0_elements : Fld Z h0 a1 "java/util/ArrayDeque" "elements" "[Ljava/lang/Object;" .null) (F0_head : Fld Z h0 a1 "java/util/ArrayDeque" "head" "I" (.int (0 : Int32))) (F0_tail : Fld Z h0 a1 "java/util/ArrayDeque" "tail" "I" (.int (0 : Int32)))  :
    MetFree l (⟨"java/util/ArrayDeque", "<init>", "()V"⟩ : MethodName) (head1 (Jvm.Cond.code (⟨"java/util/ArrayDeque", "<init>", "()V"⟩ : MethodName) jdk_21_method_3_code 1 none :: ws) ({ frames := 2, cells := 1, slots := 17, locals := 24 } : Room)) (fun a U => a = #[(.ref a1)] ∧ Z.Warmed39 U.vm ∧ U.heap = h0) (fun _ _ _ _ _ => True) (fun _ U o U' => ∃ v L, o = .returned v ∧ own_Qdqn Z a1 h0 n0 v U'.heap L ∧ FrameEnd U o U' L ({ frames := 2, cells := 1, slots := 17, locals := 24 } : Room).cells ({ frames := 2, cells := 1, slots := 17, locals := 24 } : Room).slots) := by
  refine own_met (Q := own_Qdqn Z a1 h0 n0) (plainFor_of_name own_pn9) ?_
  intro p e s m below meth c s₁ K hx hby hml hown hnm hret hZ X0 e0 hK
  have hown : s.vm.findClass "java/util/ArrayDeque" = some m.cls := hown
  have hnm : meth.name = "<init>" := hnm
  have N0 := Fr.nil n0
  refine own_by (fun t k => castTop (own_efdqn m a1) k) ?_
  show own_Go p.tables e below K (s₁.setTop (mkF m 0 #[.val (.ref a1)] []))
  refine own_by (fun t k => XS.aloadN X0.here hx rfl (hb hby own_d9_0) rfl rfl k) ?_
  show own_Go p.tables e below K (s₁.setTop (mkF m 1 #[.val (.ref a1)] [(.ref a1)]))
  obtain ⟨_, _, ⟨T11, L11, k11, n11⟩, -, X11, ⟨Lc11, hQ11, l11, y11, z11⟩, st11⟩ := X0.specialBack hx (y := (⟨"java/util/AbstractCollection", "<init>", "()V"⟩ : MethodName)) rfl hown (mvT hZ (hw _ (List.mem_of_getElem? (i := 63) rfl))) (mvT hZ (hw _ (List.mem_of_getElem? (i := 19) rfl))) (mvT hZ (hw _ (List.mem_of_getElem? (i := 23) rfl))) (by decide) (backOf (W := 0) (own_rmaci l Z aw hw [] a1 h0 n0 Z0) hZ (hw _ (List.mem_of_getElem? (i := 23) rfl)) (hw _ (List.mem_of_getElem? (i := 22) rfl)) (by decide) (by decide)) (g := (mkF m 1 #[.val (.ref a1)] [(.ref a1)])) rfl (by rw [hml]; rfl) (Steps.refl _) (a := a1) (argsL := []) (rest := []) (lenOf own_pd0 rfl) rfl (by show 2 * 0 + _ ≤ _; exact Nat.le_of_eq rfl) (hb hby own_d9_1) (fun _ _ => ⟨rfl, e0, (by decide : 0 + 0 ≤ _), (by decide : 0 + 0 ≤ _)⟩)
  dsimp only [Pt.U, Pt.locs, Pt.cells, Pt.slots] at X11 l11 y11 z11 st11 hQ11
  subst l11 y11 z11
  obtain ⟨rfl, N11q, e11⟩ := hQ11
  have N11 := Fr.app N0 N11q
  refine own_by (fun t k => st11.trans k) ?_
  show own_Go p.tables e below K (T11.setTop (mkF m 4 #[.val (.ref a1)] []))
  refine own_by (fun t k => XS.aloadN X11.here hx rfl (hb hby own_d9_4) rfl rfl k) ?_
  show own_Go p.tables e below K (T11.setTop (mkF m 5 #[.val (.ref a1)] [(.ref a1)]))
  refine own_by (fun t k => XS.bipush X11.here hx rfl (hb hby own_d9_5) k) ?_
  show own_Go p.tables e below K (T11.setTop (mkF m 7 #[.val (.ref a1)] [(.int (17 : Int32)), (.ref a1)]))
  obtain ⟨T12, h12, k12, X12, e12, E12, A12, Ov12, st12⟩ := newR X11 hx hZ hown (hw _ (List.mem_of_getElem? (i := 65) rfl)) (hw _ (List.mem_of_getElem? (i := 66) rfl)) e11 (g := (mkF m 7 #[.val (.ref a1)] [(.int (17 : Int32)), (.ref a1)])) rfl (hb hby own_d9_7) rfl (by decide) (cap := 17) (by decide) (by decide) (by decide) (by decide)
  obtain ⟨b12, g12⟩ : ∃ z, z = h0.size := ⟨_, rfl⟩
  rw [← g12] at A12 st12
  refine own_by st12 ?_
  have gn_b12 : n0 ≤ b12 := Nat.le_trans Z0 (Nat.le_of_eq g12.symm)
  have ne_a1_b12 : a1 ≠ b12 := Nat.ne_of_lt (Nat.lt_of_lt_of_le E0.lt (Nat.le_of_eq g12.symm))
  have F12_elements_a1 := F0_elements.ext E12
  have F12_head_a1 := F0_head.ext E12
  have F12_tail_a1 := F0_tail.ext E12
  have Ex12_a1 := E0.ext E12
  have K12 := (Keep.refl h0 [a1]).ext E12
  have Z12 := Nat.le_trans Z0 E12.1
  have xn12 : own_Ar Z h12 b12 k12 := ⟨_, A12, sz_new _ _ _, rfl⟩
  show own_Go p.tables e below K (T12.setTop (mkF m 10 #[.val (.ref a1)] [(.ref b12), (.ref a1)]))
  obtain ⟨T13, h13, X13, e13, W13, st13⟩ := putF X12 hx hZ hown (host := "") (Or.inl (hw _ (List.mem_of_getElem? (i := 67) rfl))) Via.refl e12 F12_elements_a1 Ex12_a1 (Or.inl (hw _ (List.mem_of_getElem? (i := 68) rfl))) (hw _ (List.mem_of_getElem? (i := 58) rfl)) (ty := (.array (.object "java/lang/Object"))) (by decide) rfl rfl (g := (mkF m 10 #[.val (.ref a1)] [(.ref b12), (.ref a1)])) rfl rfl (hb hby own_d9_10)
  refine own_by st13 ?_
  have F13_elements_a1 := F12_elements_a1.same W13
  have F13_head_a1 := F12_head_a1.other W13 (Or.inr (slot_ne (Or.inl (hw _ (List.mem_of_getElem? (i := 157) rfl))) (Or.inl (hw _ (List.mem_of_getElem? (i := 68) rfl))) (by decide) (t := .int) (t' := (.array (.object "java/lang/Object"))) (by decide) (by decide)))
  have F13_tail_a1 := F12_tail_a1.other W13 (Or.inr (slot_ne (Or.inl (hw _ (List.mem_of_getElem? (i := 154) rfl))) (Or.inl (hw _ (List.mem_of_getElem? (i := 68) rfl))) (by decide) (t := .int) (t' := (.array (.object "java/lang/Object"))) (by decide) (by decide)))
  have xa13_b12 := xn12.other W13 (Ne.symm ne_a1_b12)
  have Ex13_a1 := Ex12_a1.wr W13
  have K13 := K12.wr W13 (Or.inl (by simp))
  have Z13 := Nat.le_trans Z12 (Keep.of_wr W13).1
  have N13 := Fr.snoc X13 N11 ga
  show own_Go p.tables e below K (T13.setTop (mkF m 13 #[.val (.ref a1)] []))
  exact own_retV X13 hx hret (hb hby own_d9_13) (hK none X13 (fun _ => rfl) (by rw [e13]; exact ⟨rfl, N13, K13, _, _, gn_b12, ⟨Ex13_a1, F13_elements_a1, F13_head_a1, F13_tail_a1, xa13_b12, Ov12⟩⟩) (by decide) (by decide))
theorem own_pn6 : plainName "com/example/predicate/predicate/engine/FoldedTransactions" = true := by first | (simp [plainName, overriddenIn]; done) | decide +kernel
theorem own_d6_0 : decode prog_49_method_1_code 0 = .ok (.aload_n 0, 1) := by decide +kernel
theorem own_d6_1 : decode prog_49_method_1_code 1 = .ok (.invokespecial 3, 3) := by decide +kernel
theorem own_d6_4 : decode prog_49_method_1_code 4 = .ok (.aload_n 0, 1) := by decide +kernel
theorem own_d6_5 : decode prog_49_method_1_code 5 = .ok (.new 9, 3) := by decide +kernel
theorem own_d6_8 : decode prog_49_method_1_code 8 = .ok (.dup, 1) := by decide +kernel
theorem own_d6_9 : decode prog_49_method_1_code 9 = .ok (.invokespecial 11, 3) := by decide +kernel
theorem own_d6_12 : decode prog_49_method_1_code 12 = .ok (.putfield 12, 3) := by decide +kernel
theorem own_d6_15 : decode prog_49_method_1_code 15 = .ok (.aload_n 0, 1) := by decide +kernel
theorem own_d6_16 : decode prog_49_method_1_code 16 = .ok (.new 18, 3) := by decide +kernel
theorem own_d6_19 : decode prog_49_method_1_code 19 = .ok (.dup, 1) := by decide +kernel
theorem own_d6_20 : decode prog_49_method_1_code 20 = .ok (.invokespecial 20, 3) := by decide +kernel
theorem own_d6_23 : decode prog_49_method_1_code 23 = .ok (.putfield 21, 3) := by decide +kernel
theorem own_d6_26 : decode prog_49_method_1_code 26 = .ok (.return_, 1) := by decide +kernel
theorem own_efftn (m : MethodId) (a1 : Addr) : entryFrame m #[(.ref a1)] 1 = mkF m 0 #[.val (.ref a1)] [] := by first | (simp [entryFrame, mkF, argsToLocals, Value.category]; done) | rfl
def own_Qftn (Z : State) (a1 : Addr)  (h0 : Heap) (n0 : Nat) (v : Option Value) (h : Heap) (L : List Loc) : Prop := v = none ∧ Fr n0 L ∧ Keep h0 h [a1] ∧ ∃ (hm dq el : Addr) (k : ClassId), n0 ≤ hm ∧ n0 ≤ dq ∧ n0 ≤ el ∧ own_FT Z h a1 hm dq el k 0 0 0
set_option maxRecDepth 65536 in
set_option maxHeartbeats 40000000 in
theorem own_rmftn (l : Launch) (Z : State) (aw : Array Value) (hw : ∀ d ∈ tables_1, d.before aw Z = true) (ws : List Jvm.Cond) (a1 : Addr)  (h0 : Heap) (n0 : Nat) (Z0 : n0 ≤ h0.size) (E0 : Exa Z h0 a1 "com/example/predicate/predicate/engine/FoldedTransactions") (ga : n0 ≤ a1) (F0_tables : Fld Z h0 a1 "com/example/predicate/predicate/engine/FoldedTransactions" "tables" "Ljava/util/Map;" .null) (F0_pivots : Fld Z h0 a1 "com/example/predicate/predicate/engine/FoldedTransactions" "pivots" "Ljava/util/Deque;" .null) (F0_pivotWrites : Fld Z h0 a1 "com/example/predicate/predicate/engine/FoldedTransactions" "pivotWrites" "J" (.long (0 : Int64))) (F0_last : Fld Z h0 a1 "com/example/predicate/predicate/engine/FoldedTransactions" "last" "J" (.long (0 : Int64)))  :
    MetFree l (⟨"com/example/predicate/predicate/engine/FoldedTransactions", "<init>", "()V"⟩ : MethodName) (head1 (Jvm.Cond.code (⟨"com/example/predicate/predicate/engine/FoldedTransactions", "<init>", "()V"⟩ : MethodName) prog_49_method_1_code 1 none :: ws) ({ frames := 3, cells := 3, slots := 28, locals := 40 } : Room)) (fun a U => a = #[(.ref a1)] ∧ Z.Warmed39 U.vm ∧ U.heap = h0) (fun _ _ _ _ _ => True) (fun _ U o U' => ∃ v L, o = .returned v ∧ own_Qftn Z a1 h0 n0 v U'.heap L ∧ FrameEnd U o U' L ({ frames := 3, cells := 3, slots := 28, locals := 40 } : Room).cells ({ frames := 3, cells := 3, slots := 28, locals := 40 } : Room).slots) := by
  refine own_met (Q := own_Qftn Z a1 h0 n0) (plainFor_of_name own_pn6) ?_
  intro p e s m below meth c s₁ K hx hby hml hown hnm hret hZ X0 e0 hK
  have hown : s.vm.findClass "com/example/predicate/predicate/engine/FoldedTransactions" = some m.cls := hown
  have hnm : meth.name = "<init>" := hnm
  have N0 := Fr.nil n0
  refine own_by (fun t k => castTop (own_efftn m a1) k) ?_
  show own_Go p.tables e below K (s₁.setTop (mkF m 0 #[.val (.ref a1)] []))
  refine own_by (fun t k => XS.aloadN X0.here hx rfl (hb hby own_d6_0) rfl rfl k) ?_
  show own_Go p.tables e below K (s₁.setTop (mkF m 1 #[.val (.ref a1)] [(.ref a1)]))
  obtain ⟨T14, X14, e14, st14⟩ := initO X0 hx hZ hown (hw _ (List.mem_of_getElem? (i := 38) rfl)) (hw _ (List.mem_of_getElem? (i := 25) rfl)) (hw _ (List.mem_of_getElem? (i := 26) rfl)) e0 (g := (mkF m 1 #[.val (.ref a1)] [(.ref a1)])) rfl (by rw [hml]; rfl) rfl (hb hby own_d6_1) (by decide) (W := 0) (by show 2 * 0 + _ ≤ _; exact Nat.le_of_eq rfl) (by decide)
  refine own_by st14 ?_
  show own_Go p.tables e below K (T14.setTop (mkF m 4 #[.val (.ref a1)] []))
  refine own_by (fun t k => XS.aloadN X14.here hx rfl (hb hby own_d6_4) rfl rfl k) ?_
  show own_Go p.tables e below K (T14.setTop (mkF m 5 #[.val (.ref a1)] [(.ref a1)]))
  obtain ⟨T15, h15, X15, e15, E15, A15, D15, -, st15⟩ := newO X14 hx hZ hown (hw _ (List.mem_of_getElem? (i := 39) rfl)) (hw _ (List.mem_of_getElem? (i := 40) rfl)) (hw _ (List.mem_of_getElem? (i := 41) rfl)) e14 (g := (mkF m 5 #[.val (.ref a1)] [(.ref a1)])) rfl (hb hby own_d6_5) (by decide) (by decide)
  obtain ⟨b15, g15⟩ : ∃ z, z = h0.size := ⟨_, rfl⟩
  rw [← g15] at A15 D15 st15
  refine own_by st15 ?_
  have gn_b15 : n0 ≤ b15 := Nat.le_trans Z0 (Nat.le_of_eq g15.symm)
  have sz_b15 : h0.size ≤ b15 := Nat.le_trans (Keep.refl h0 [a1]).1 (Nat.le_of_eq g15.symm)
  have ne_a1_b15 : a1 ≠ b15 := Nat.ne_of_lt (Nat.lt_of_lt_of_le E0.lt (Nat.le_of_eq g15.symm))
  have F15_tables_a1 := F0_tables.ext E15
  have F15_pivots_a1 := F0_pivots.ext E15
  have F15_pivotWrites_a1 := F0_pivotWrites.ext E15
  have F15_last_a1 := F0_last.ext E15
  have Ex15_a1 := E0.ext E15
  have K15 := (Keep.refl h0 [a1]).ext E15
  have Z15 := Nat.le_trans Z0 E15.1
  have F15_loadFactor_b15 : Fld Z h15 b15 "java/util/HashMap" "loadFactor" "F" (.float (0 : UInt32)) := D15 (Or.inr (hw _ (List.mem_of_getElem? (i := 54) rfl))) (ty := .float) (by decide)
  have F15_modCount_b15 : Fld Z h15 b15 "java/util/HashMap" "modCount" "I" (.int (0 : Int32)) := D15 (Or.inl (hw _ (List.mem_of_getElem? (i := 194) rfl))) (ty := .int) (by decide)
  have F15_table_b15 : Fld Z h15 b15 "java/util/HashMap" "table" "[Ljava/util/HashMap$Node;" .null := D15 (Or.inl (hw _ (List.mem_of_getElem? (i := 196) rfl))) (ty := (.array (.object "java/util/HashMap$Node"))) (by decide)
  show own_Go p.tables e below K (T15.setTop (mkF m 8 #[.val (.ref a1)] [(.ref b15), (.ref a1)]))
  refine own_by (fun t k => XS.dup X15.here hx rfl (hb hby own_d6_8) rfl rfl k) ?_
  show own_Go p.tables e below K (T15.setTop (mkF m 9 #[.val (.ref a1)] [(.ref b15), (.ref b15), (.ref a1)]))
  obtain ⟨_, _, ⟨T16, L16, k16, n16⟩, -, X16, ⟨Lc16, hQ16, l16, y16, z16⟩, st16⟩ := X15.specialBack hx (y := (⟨"java/util/HashMap", "<init>", "()V"⟩ : MethodName)) rfl hown (mvT hZ (hw _ (List.mem_of_getElem? (i := 42) rfl))) (mvT hZ (hw _ (List.mem_of_getElem? (i := 43) rfl))) (mvT hZ (hw _ (List.mem_of_getElem? (i := 44) rfl))) (by decide) (backOf (W := 2) (own_rmhmn l Z aw hw [] b15 h15 n0 Z15 A15 gn_b15 F15_loadFactor_b15 F15_modCount_b15 F15_table_b15) hZ (hw _ (List.mem_of_getElem? (i := 44) rfl)) (hw _ (List.mem_of_getElem? (i := 41) rfl)) (by decide) (by decide)) (g := (mkF m 9 #[.val (.ref a1)] [(.ref b15), (.ref b15), (.ref a1)])) rfl (by rw [hml]; rfl) (Steps.refl _) (a := b15) (argsL := []) (rest := [(.ref b15), (.ref a1)]) (lenOf own_pd0 rfl) rfl (by show 2 * 0 + _ ≤ _; exact Nat.le_of_eq rfl) (hb hby own_d6_9) (fun _ _ => ⟨rfl, e15, (by decide : 1 + 0 ≤ _), (by decide : 8 + 0 ≤ _)⟩)
  dsimp only [Pt.U, Pt.locs, Pt.cells, Pt.slots] at X16 l16 y16 z16 st16 hQ16
  subst l16 y16 z16
  obtain ⟨rfl, N16q, Kp16, Bp16⟩ := hQ16
  have N16 := Fr.app N0 N16q
  refine own_by (fun t k => st16.trans k) ?_
  have F16_tables_a1 := F15_tables_a1.keep Kp16 (ninS ne_a1_b15 nin0)
  have F16_pivots_a1 := F15_pivots_a1.keep Kp16 (ninS ne_a1_b15 nin0)
  have F16_pivotWrites_a1 := F15_pivotWrites_a1.keep Kp16 (ninS ne_a1_b15 nin0)
  have F16_last_a1 := F15_last_a1.keep Kp16 (ninS ne_a1_b15 nin0)
  have Ex16_a1 := Ex15_a1.keep Kp16
  have Ex16_b15 := A15.keep Kp16
  have K16 := K15.trans Kp16 (allS (Or.inr sz_b15) (all0))
  have Z16 := Nat.le_trans Z15 Kp16.1
  show own_Go p.tables e below K (T16.setTop (mkF m 12 #[.val (.ref a1)] [(.ref b15), (.ref a1)]))
  obtain ⟨T17, h17, X17, e17, W17, st17⟩ := putF X16 hx hZ hown (host := "") (Or.inl (hw _ (List.mem_of_getElem? (i := 55) rfl))) Via.refl rfl F16_tables_a1 Ex16_a1 (Or.inr ⟨(hw _ (List.mem_of_getElem? (i := 56) rfl)), rfl, hnm⟩) (hw _ (List.mem_of_getElem? (i := 33) rfl)) (ty := (.object "java/util/Map")) (by decide) rfl rfl (g := (mkF m 12 #[.val (.ref a1)] [(.ref b15), (.ref a1)])) rfl rfl (hb hby own_d6_12)
  refine own_by st17 ?_
  have F17_tables_a1 := F16_tables_a1.same W17
  have F17_pivots_a1 := F16_pivots_a1.other W17 (Or.inr (slot_ne (Or.inr (hw _ (List.mem_of_getElem? (i := 70) rfl))) (Or.inr (hw _ (List.mem_of_getElem? (i := 56) rfl))) (by decide) (t := (.object "java/util/Deque")) (t' := (.object "java/util/Map")) (by decide) (by decide)))
  have F17_pivotWrites_a1 := F16_pivotWrites_a1.other W17 (Or.inr (slot_ne (Or.inl (hw _ (List.mem_of_getElem? (i := 162) rfl))) (Or.inr (hw _ (List.mem_of_getElem? (i := 56) rfl))) (by decide) (t := .long) (t' := (.object "java/util/Map")) (by decide) (by decide)))
  have F17_last_a1 := F16_last_a1.other W17 (Or.inr (slot_ne (Or.inl (hw _ (List.mem_of_getElem? (i := 77) rfl))) (Or.inr (hw _ (List.mem_of_getElem? (i := 56) rfl))) (by decide) (t := .long) (t' := (.object "java/util/Map")) (by decide) (by decide)))
  have F17_modCount_b15 := Bp16.2.1.other W17 (Or.inl (Ne.symm ne_a1_b15))
  have F17_table_b15 := Bp16.2.2.other W17 (Or.inl (Ne.symm ne_a1_b15))
  have Ex17_a1 := Ex16_a1.wr W17
  have Ex17_b15 := Bp16.1.wr W17
  have K17 := K16.wr W17 (Or.inl (by simp))
  have Z17 := Nat.le_trans Z16 (Keep.of_wr W17).1
  have N17 := Fr.snoc X17 N16 ga
  show own_Go p.tables e below K (T17.setTop (mkF m 15 #[.val (.ref a1)] []))
  refine own_by (fun t k => XS.aloadN X17.here hx rfl (hb hby own_d6_15) rfl rfl k) ?_
  show own_Go p.tables e below K (T17.setTop (mkF m 16 #[.val (.ref a1)] [(.ref a1)]))
  obtain ⟨T18, h18, X18, e18, E18, A18, D18, -, st18⟩ := newO X17 hx hZ hown (hw _ (List.mem_of_getElem? (i := 57) rfl)) (hw _ (List.mem_of_getElem? (i := 58) rfl)) (hw _ (List.mem_of_getElem? (i := 59) rfl)) e17 (g := (mkF m 16 #[.val (.ref a1)] [(.ref a1)])) rfl (hb hby own_d6_16) (by decide) (by decide)
  obtain ⟨b18, g18⟩ : ∃ z, z = h17.size := ⟨_, rfl⟩
  rw [← g18] at A18 D18 st18
  refine own_by st18 ?_
  have gn_b18 : n0 ≤ b18 := Nat.le_trans Z17 (Nat.le_of_eq g18.symm)
  have sz_b18 : h0.size ≤ b18 := Nat.le_trans K17.1 (Nat.le_of_eq g18.symm)
  have ne_a1_b18 : a1 ≠ b18 := Nat.ne_of_lt (Nat.lt_of_lt_of_le Ex17_a1.lt (Nat.le_of_eq g18.symm))
  have ne_b15_b18 : b15 ≠ b18 := Nat.ne_of_lt (Nat.lt_of_lt_of_le Ex17_b15.lt (Nat.le_of_eq g18.symm))
  have F18_tables_a1 := F17_tables_a1.ext E18
  have F18_pivots_a1 := F17_pivots_a1.ext E18
  have F18_pivotWrites_a1 := F17_pivotWrites_a1.ext E18
  have F18_last_a1 := F17_last_a1.ext E18
  have F18_modCount_b15 := F17_modCount_b15.ext E18
  have F18_table_b15 := F17_table_b15.ext E18
  have Ex18_a1 := Ex17_a1.ext E18
  have Ex18_b15 := Ex17_b15.ext E18
  have K18 := K17.ext E18
  have Z18 := Nat.le_trans Z17 E18.1
  have F18_elements_b18 : Fld Z h18 b18 "java/util/ArrayDeque" "elements" "[Ljava/lang/Object;" .null := D18 (Or.inl (hw _ (List.mem_of_getElem? (i := 68) rfl))) (ty := (.array (.object "java/lang/Object"))) (by decide)
  have F18_tail_b18 : Fld Z h18 b18 "java/util/ArrayDeque" "tail" "I" (.int (0 : Int32)) := D18 (Or.inl (hw _ (List.mem_of_getElem? (i := 154) rfl))) (ty := .int) (by decide)
  have F18_head_b18 : Fld Z h18 b18 "java/util/ArrayDeque" "head" "I" (.int (0 : Int32)) := D18 (Or.inl (hw _ (List.mem_of_getElem? (i := 157) rfl))) (ty := .int) (by decide)
  show own_Go p.tables e below K (T18.setTop (mkF m 19 #[.val (.ref a1)] [(.ref b18), (.ref a1)]))
  refine own_by (fun t k => XS.dup X18.here hx rfl (hb hby own_d6_19) rfl rfl k) ?_
  show own_Go p.tables e below K (T18.setTop (mkF m 20 #[.val (.ref a1)] [(.ref b18), (.ref b18), (.ref a1)]))
  obtain ⟨_, _, ⟨T19, L19, k19, n19⟩, -, X19, ⟨Lc19, hQ19, l19, y19, z19⟩, st19⟩ := X18.specialBack hx (y := (⟨"java/util/ArrayDeque", "<init>", "()V"⟩ : MethodName)) rfl hown (mvT hZ (hw _ (List.mem_of_getElem? (i := 60) rfl))) (mvT hZ (hw _ (List.mem_of_getElem? (i := 61) rfl))) (mvT hZ (hw _ (List.mem_of_getElem? (i := 62) rfl))) (by decide) (backOf (W := 2) (own_rmdqn l Z aw hw [] b18 h18 n0 Z18 A18 gn_b18 F18_elements_b18 F18_head_b18 F18_tail_b18) hZ (hw _ (List.mem_of_getElem? (i := 62) rfl)) (hw _ (List.mem_of_getElem? (i := 59) rfl)) (by decide) (by decide)) (g := (mkF m 20 #[.val (.ref a1)] [(.ref b18), (.ref b18), (.ref a1)])) rfl (by rw [hml]; rfl) (Steps.refl _) (a := b18) (argsL := []) (rest := [(.ref b18), (.ref a1)]) (lenOf own_pd0 rfl) rfl (by show 2 * 0 + _ ≤ _; exact Nat.le_of_eq rfl) (hb hby own_d6_20) (fun _ _ => ⟨rfl, e18, (by decide : 2 + 1 ≤ _), (by decide : 11 + 17 ≤ _)⟩)
  dsimp only [Pt.U, Pt.locs, Pt.cells, Pt.slots] at X19 l19 y19 z19 st19 hQ19
  subst l19 y19 z19
  obtain ⟨rfl, N19q, Kp19, el19, k19c, gp19, Bp19⟩ := hQ19
  have N19 := Fr.app N17 N19q
  refine own_by (fun t k => st19.trans k) ?_
  have F19_tables_a1 := F18_tables_a1.keep Kp19 (ninS ne_a1_b18 nin0)
  have F19_pivots_a1 := F18_pivots_a1.keep Kp19 (ninS ne_a1_b18 nin0)
  have F19_pivotWrites_a1 := F18_pivotWrites_a1.keep Kp19 (ninS ne_a1_b18 nin0)
  have F19_last_a1 := F18_last_a1.keep Kp19 (ninS ne_a1_b18 nin0)
  have F19_modCount_b15 := F18_modCount_b15.keep Kp19 (ninS ne_b15_b18 nin0)
  have F19_table_b15 := F18_table_b15.keep Kp19 (ninS ne_b15_b18 nin0)
  have Ex19_a1 := Ex18_a1.keep Kp19
  have Ex19_b15 := Ex18_b15.keep Kp19
  have Ex19_b18 := A18.keep Kp19
  have K19 := K18.trans Kp19 (allS (Or.inr sz_b18) (all0))
  have Z19 := Nat.le_trans Z18 Kp19.1
  show own_Go p.tables e below K (T19.setTop (mkF m 23 #[.val (.ref a1)] [(.ref b18), (.ref a1)]))
  obtain ⟨T20, h20, X20, e20, W20, st20⟩ := putF X19 hx hZ hown (host := "") (Or.inl (hw _ (List.mem_of_getElem? (i := 69) rfl))) Via.refl rfl F19_pivots_a1 Ex19_a1 (Or.inr ⟨(hw _ (List.mem_of_getElem? (i := 70) rfl)), rfl, hnm⟩) (hw _ (List.mem_of_getElem? (i := 33) rfl)) (ty := (.object "java/util/Deque")) (by decide) rfl rfl (g := (mkF m 23 #[.val (.ref a1)] [(.ref b18), (.ref a1)])) rfl rfl (hb hby own_d6_23)
  refine own_by st20 ?_
  have F20_tables_a1 := F19_tables_a1.other W20 (Or.inr (slot_ne (Or.inr (hw _ (List.mem_of_getElem? (i := 56) rfl))) (Or.inr (hw _ (List.mem_of_getElem? (i := 70) rfl))) (by decide) (t := (.object "java/util/Map")) (t' := (.object "java/util/Deque")) (by decide) (by decide)))
  have F20_pivots_a1 := F19_pivots_a1.same W20
  have F20_pivotWrites_a1 := F19_pivotWrites_a1.other W20 (Or.inr (slot_ne (Or.inl (hw _ (List.mem_of_getElem? (i := 162) rfl))) (Or.inr (hw _ (List.mem_of_getElem? (i := 70) rfl))) (by decide) (t := .long) (t' := (.object "java/util/Deque")) (by decide) (by decide)))
  have F20_last_a1 := F19_last_a1.other W20 (Or.inr (slot_ne (Or.inl (hw _ (List.mem_of_getElem? (i := 77) rfl))) (Or.inr (hw _ (List.mem_of_getElem? (i := 70) rfl))) (by decide) (t := .long) (t' := (.object "java/util/Deque")) (by decide) (by decide)))
  have F20_modCount_b15 := F19_modCount_b15.other W20 (Or.inl (Ne.symm ne_a1_b15))
  have F20_table_b15 := F19_table_b15.other W20 (Or.inl (Ne.symm ne_a1_b15))
  have F20_elements_b18 := Bp19.2.1.other W20 (Or.inl (Ne.symm ne_a1_b18))
  have F20_head_b18 := Bp19.2.2.1.other W20 (Or.inl (Ne.symm ne_a1_b18))
  have F20_tail_b18 := Bp19.2.2.2.1.other W20 (Or.inl (Ne.symm ne_a1_b18))
  have xa20_el19 := Bp19.2.2.2.2.1.other W20 (Ne.symm (own_Ar.ne Ex19_a1 Bp19.2.2.2.2.1 (hw _ (List.mem_of_getElem? (i := 33) rfl))))
  have Ex20_a1 := Ex19_a1.wr W20
  have Ex20_b15 := Ex19_b15.wr W20
  have Ex20_b18 := Bp19.1.wr W20
  have K20 := K19.wr W20 (Or.inl (by simp))
  have Z20 := Nat.le_trans Z19 (Keep.of_wr W20).1
  have N20 := Fr.snoc X20 N19 ga
  show own_Go p.tables e below K (T20.setTop (mkF m 26 #[.val (.ref a1)] []))
  exact own_retV X20 hx hret (hb hby own_d6_26) (hK none X20 (fun _ => rfl) (by rw [e20]; exact ⟨rfl, N20, K20, _, _, _, _, gn_b15, gn_b18, gp19, ⟨Ex20_a1, F20_tables_a1, F20_pivots_a1, F20_pivotWrites_a1, F20_last_a1, ⟨Ex20_b15, F20_modCount_b15, F20_table_b15⟩, ⟨Ex20_b18, F20_elements_b18, F20_head_b18, F20_tail_b18, xa20_el19, Bp19.2.2.2.2.2⟩⟩⟩) (by decide) (by decide))
theorem own_d10_0 : decode prog_49_method_5_code 0 = .ok (.aload_n 0, 1) := by decide +kernel
theorem own_d10_1 : decode prog_49_method_5_code 1 = .ok (.getfield 85, 3) := by decide +kernel
theorem own_d10_4 : decode prog_49_method_5_code 4 = .ok (.lconst 0, 1) := by decide +kernel
theorem own_d10_5 : decode prog_49_method_5_code 5 = .ok (.lcmp, 1) := by decide +kernel
theorem own_d10_6 : decode prog_49_method_5_code 6 = .ok (.ifCond .ne 7, 3) := by decide +kernel
theorem own_d10_9 : decode prog_49_method_5_code 9 = .ok (.iconst 1, 1) := by decide +kernel
theorem own_d10_10 : decode prog_49_method_5_code 10 = .ok (.goto 4, 3) := by decide +kernel
theorem own_d10_13 : decode prog_49_method_5_code 13 = .ok (.iconst 0, 1) := by decide +kernel
theorem own_d10_14 : decode prog_49_method_5_code 14 = .ok (.ireturn, 1) := by decide +kernel
theorem own_efemp (m : MethodId) (a1 : Addr) : entryFrame m #[(.ref a1)] 1 = mkF m 0 #[.val (.ref a1)] [] := by first | (simp [entryFrame, mkF, argsToLocals, Value.category]; done) | rfl
def own_Qemp (Z : State) (a1 : Addr) (la : Int64) (h0 : Heap) (n0 : Nat) (v : Option Value) (h : Heap) (L : List Loc) : Prop := v = some (.int (own_emp la)) ∧ Fr n0 L ∧ h = h0
set_option maxRecDepth 65536 in
set_option maxHeartbeats 40000000 in
theorem own_rmemp (l : Launch) (Z : State) (aw : Array Value) (hw : ∀ d ∈ tables_1, d.before aw Z = true) (ws : List Jvm.Cond) (a1 : Addr) (la : Int64) (h0 : Heap) (n0 : Nat) (Z0 : n0 ≤ h0.size) (F0 : Fld Z h0 a1 "com/example/predicate/predicate/engine/FoldedTransactions" "last" "J" (.long la)) :
    MetFree l (⟨"com/example/predicate/predicate/engine/FoldedTransactions", "isEmpty", "()Z"⟩ : MethodName) (head1 (Jvm.Cond.code (⟨"com/example/predicate/predicate/engine/FoldedTransactions", "isEmpty", "()Z"⟩ : MethodName) prog_49_method_5_code 1 (some .boolean) :: ws) ({ frames := 0, cells := 0, slots := 0, locals := 0 } : Room)) (fun a U => a = #[(.ref a1)] ∧ Z.Warmed39 U.vm ∧ U.heap = h0) (fun _ _ _ _ _ => True) (fun _ U o U' => ∃ v L, o = .returned v ∧ own_Qemp Z a1 la h0 n0 v U'.heap L ∧ FrameEnd U o U' L ({ frames := 0, cells := 0, slots := 0, locals := 0 } : Room).cells ({ frames := 0, cells := 0, slots := 0, locals := 0 } : Room).slots) := by
  refine own_met (Q := own_Qemp Z a1 la h0 n0) (plainFor_of_name own_pn6) ?_
  intro p e s m below meth c s₁ K hx hby hml hown hnm hret hZ X0 e0 hK
  have hown : s.vm.findClass "com/example/predicate/predicate/engine/FoldedTransactions" = some m.cls := hown
  have N0 := Fr.nil n0
  refine own_by (fun t k => castTop (own_efemp m a1) k) ?_
  show own_Go p.tables e below K (s₁.setTop (mkF m 0 #[.val (.ref a1)] []))
  refine own_by (fun t k => XS.aloadN X0.here hx rfl (hb hby own_d10_0) rfl rfl k) ?_
  show own_Go p.tables e below K (s₁.setTop (mkF m 1 #[.val (.ref a1)] [(.ref a1)]))
  obtain ⟨T21, X21, e21, st21⟩ := getF X0 hx hZ hown (host := "") (Or.inl (hw _ (List.mem_of_getElem? (i := 76) rfl))) Via.refl e0 F0 (g := (mkF m 1 #[.val (.ref a1)] [(.ref a1)])) rfl rfl (hb hby own_d10_1)
  refine own_by st21 ?_
  show own_Go p.tables e below K (T21.setTop (mkF m 4 #[.val (.ref a1)] [(.long la)]))
  refine own_by (fun t k => XS.lconst X21.here hx rfl (hb hby own_d10_4) k) ?_
  show own_Go p.tables e below K (T21.setTop (mkF m 5 #[.val (.ref a1)] [(.long (0 : Int64)), (.long la)]))
  refine own_by (fun t k => XS.lcmp X21.here hx rfl (hb hby own_d10_5) rfl k) ?_
  show own_Go p.tables e below K (T21.setTop (mkF m 6 #[.val (.ref a1)] [(.int (lcmpW la (0 : Int64)))]))
  by_cases hc6 : la = (0 : Int64)
  · refine own_by (fun t k => XS.ifNo X21.here hx rfl (hb hby own_d10_6) rfl (own_leq hc6).2 k) ?_
    show own_Go p.tables e below K (T21.setTop (mkF m 9 #[.val (.ref a1)] []))
    refine own_by (fun t k => XS.iconst X21.here hx rfl (hb hby own_d10_9) k) ?_
    show own_Go p.tables e below K (T21.setTop (mkF m 10 #[.val (.ref a1)] [(.int (1 : Int32))]))
    refine own_by (fun t k => XS.goto X21.here hx rfl (pc0 := 10) (pc' := 14) rfl (hb hby own_d10_10) (by decide) (by decide) k) ?_
    show own_Go p.tables e below K (T21.setTop (mkF m 14 #[.val (.ref a1)] [(.int (1 : Int32))]))
    exact own_retZ X21 hx (t := .boolean) hret (by simp) (hb hby own_d10_14) (hK (some (.int (1 : Int32))) X21 (fun h => by rw [hret] at h; cases h) (⟨by simp [own_emp, *], N0, e21⟩) (by decide) (by decide))
  · refine own_by (fun t k => XS.ifYes X21.here hx rfl (pc0 := 6) (pc' := 13) rfl (hb hby own_d10_6) rfl (own_lne hc6).2 (by decide) (by decide) k) ?_
    show own_Go p.tables e below K (T21.setTop (mkF m 13 #[.val (.ref a1)] []))
    refine own_by (fun t k => XS.iconst X21.here hx rfl (hb hby own_d10_13) k) ?_
    show own_Go p.tables e below K (T21.setTop (mkF m 14 #[.val (.ref a1)] [(.int (0 : Int32))]))
    exact own_retZ X21 hx (t := .boolean) hret (by simp) (hb hby own_d10_14) (hK (some (.int (0 : Int32))) X21 (fun h => by rw [hret] at h; cases h) (⟨by simp [own_emp, *], N0, e21⟩) (by decide) (by decide))
theorem own_d22_0 : decode prog_49_method_4_code 0 = .ok (.aload_n 0, 1) := by decide +kernel
theorem own_d22_1 : decode prog_49_method_4_code 1 = .ok (.getfield 85, 3) := by decide +kernel
theorem own_d22_4 : decode prog_49_method_4_code 4 = .ok (.lload_n 1, 1) := by decide +kernel
theorem own_d22_5 : decode prog_49_method_4_code 5 = .ok (.lcmp, 1) := by decide +kernel
theorem own_d22_6 : decode prog_49_method_4_code 6 = .ok (.ifCond .gt 7, 3) := by decide +kernel
theorem own_d22_9 : decode prog_49_method_4_code 9 = .ok (.iconst 1, 1) := by decide +kernel
theorem own_d22_10 : decode prog_49_method_4_code 10 = .ok (.goto 4, 3) := by decide +kernel
theorem own_d22_13 : decode prog_49_method_4_code 13 = .ok (.iconst 0, 1) := by decide +kernel
theorem own_d22_14 : decode prog_49_method_4_code 14 = .ok (.ireturn, 1) := by decide +kernel
theorem own_efseen (m : MethodId) (a1 : Addr) (q1 : Int64) : entryFrame m #[(.ref a1), (.long q1)] 3 = mkF m 0 #[.val (.ref a1), .val (.long q1), .second] [] := by first | (simp [entryFrame, mkF, argsToLocals, Value.category]; done) | rfl
def own_Qseen (Z : State) (a1 : Addr) (q1 : Int64) (la : Int64) (h0 : Heap) (n0 : Nat) (v : Option Value) (h : Heap) (L : List Loc) : Prop := v = some (.int (own_seen la q1)) ∧ Fr n0 L ∧ h = h0
set_option maxRecDepth 65536 in
set_option maxHeartbeats 40000000 in
theorem own_rmseen (l : Launch) (Z : State) (aw : Array Value) (hw : ∀ d ∈ tables_1, d.before aw Z = true) (ws : List Jvm.Cond) (a1 : Addr) (q1 : Int64) (la : Int64) (h0 : Heap) (n0 : Nat) (Z0 : n0 ≤ h0.size) (F0 : Fld Z h0 a1 "com/example/predicate/predicate/engine/FoldedTransactions" "last" "J" (.long la)) :
    MetFree l (⟨"com/example/predicate/predicate/engine/FoldedTransactions", "seenWithin", "(J)Z"⟩ : MethodName) (head1 (Jvm.Cond.code (⟨"com/example/predicate/predicate/engine/FoldedTransactions", "seenWithin", "(J)Z"⟩ : MethodName) prog_49_method_4_code 3 (some .boolean) :: ws) ({ frames := 0, cells := 0, slots := 0, locals := 0 } : Room)) (fun a U => a = #[(.ref a1), (.long q1)] ∧ Z.Warmed39 U.vm ∧ U.heap = h0) (fun _ _ _ _ _ => True) (fun _ U o U' => ∃ v L, o = .returned v ∧ own_Qseen Z a1 q1 la h0 n0 v U'.heap L ∧ FrameEnd U o U' L ({ frames := 0, cells := 0, slots := 0, locals := 0 } : Room).cells ({ frames := 0, cells := 0, slots := 0, locals := 0 } : Room).slots) := by
  refine own_met (Q := own_Qseen Z a1 q1 la h0 n0) (plainFor_of_name own_pn6) ?_
  intro p e s m below meth c s₁ K hx hby hml hown hnm hret hZ X0 e0 hK
  have hown : s.vm.findClass "com/example/predicate/predicate/engine/FoldedTransactions" = some m.cls := hown
  have N0 := Fr.nil n0
  refine own_by (fun t k => castTop (own_efseen m a1 q1) k) ?_
  show own_Go p.tables e below K (s₁.setTop (mkF m 0 #[.val (.ref a1), .val (.long q1), .second] []))
  refine own_by (fun t k => XS.aloadN X0.here hx rfl (hb hby own_d22_0) rfl rfl k) ?_
  show own_Go p.tables e below K (s₁.setTop (mkF m 1 #[.val (.ref a1), .val (.long q1), .second] [(.ref a1)]))
  obtain ⟨T22, X22, e22, st22⟩ := getF X0 hx hZ hown (host := "") (Or.inl (hw _ (List.mem_of_getElem? (i := 76) rfl))) Via.refl e0 F0 (g := (mkF m 1 #[.val (.ref a1), .val (.long q1), .second] [(.ref a1)])) rfl rfl (hb hby own_d22_1)
  refine own_by st22 ?_
  show own_Go p.tables e below K (T22.setTop (mkF m 4 #[.val (.ref a1), .val (.long q1), .second] [(.long la)]))
  refine own_by (fun t k => XS.lloadN X22.here hx rfl (hb hby own_d22_4) rfl k) ?_
  show own_Go p.tables e below K (T22.setTop (mkF m 5 #[.val (.ref a1), .val (.long q1), .second] [(.long q1), (.long la)]))
  refine own_by (fun t k => XS.lcmp X22.here hx rfl (hb hby own_d22_5) rfl k) ?_
  show own_Go p.tables e below K (T22.setTop (mkF m 6 #[.val (.ref a1), .val (.long q1), .second] [(.int (lcmpW la q1))]))
  by_cases hc6 : q1 < la
  · refine own_by (fun t k => XS.ifYes X22.here hx rfl (pc0 := 6) (pc' := 13) rfl (hb hby own_d22_6) rfl (own_lgt hc6).1 (by decide) (by decide) k) ?_
    show own_Go p.tables e below K (T22.setTop (mkF m 13 #[.val (.ref a1), .val (.long q1), .second] []))
    refine own_by (fun t k => XS.iconst X22.here hx rfl (hb hby own_d22_13) k) ?_
    show own_Go p.tables e below K (T22.setTop (mkF m 14 #[.val (.ref a1), .val (.long q1), .second] [(.int (0 : Int32))]))
    exact own_retZ X22 hx (t := .boolean) hret (by simp) (hb hby own_d22_14) (hK (some (.int (0 : Int32))) X22 (fun h => by rw [hret] at h; cases h) (⟨by simp [own_seen, *], N0, e22⟩) (by decide) (by decide))
  · refine own_by (fun t k => XS.ifNo X22.here hx rfl (hb hby own_d22_6) rfl (own_lle hc6).1 k) ?_
    show own_Go p.tables e below K (T22.setTop (mkF m 9 #[.val (.ref a1), .val (.long q1), .second] []))
    refine own_by (fun t k => XS.iconst X22.here hx rfl (hb hby own_d22_9) k) ?_
    show own_Go p.tables e below K (T22.setTop (mkF m 10 #[.val (.ref a1), .val (.long q1), .second] [(.int (1 : Int32))]))
    refine own_by (fun t k => XS.goto X22.here hx rfl (pc0 := 10) (pc' := 14) rfl (hb hby own_d22_10) (by decide) (by decide) k) ?_
    show own_Go p.tables e below K (T22.setTop (mkF m 14 #[.val (.ref a1), .val (.long q1), .second] [(.int (1 : Int32))]))
    exact own_retZ X22 hx (t := .boolean) hret (by simp) (hb hby own_d22_14) (hK (some (.int (1 : Int32))) X22 (fun h => by rw [hret] at h; cases h) (⟨by simp [own_seen, *], N0, e22⟩) (by decide) (by decide))
theorem own_d20_0 : decode jdk_38_method_8_code 0 = .ok (.aload_n 0, 1) := by decide +kernel
theorem own_d20_1 : decode jdk_38_method_8_code 1 = .ok (.getfield 48, 3) := by decide +kernel
theorem own_d20_4 : decode jdk_38_method_8_code 4 = .ok (.ireturn, 1) := by decide +kernel
theorem own_efsiz (m : MethodId) (a1 : Addr) : entryFrame m #[(.ref a1)] 1 = mkF m 0 #[.val (.ref a1)] [] := by first | (simp [entryFrame, mkF, argsToLocals, Value.category]; done) | rfl
def own_Qsiz (Z : State) (a1 : Addr)  (h0 : Heap) (n0 : Nat) (v : Option Value) (h : Heap) (L : List Loc) : Prop := v = some (.int (0 : Int32)) ∧ Fr n0 L ∧ h = h0
set_option maxRecDepth 65536 in
set_option maxHeartbeats 40000000 in
theorem own_rmsiz (l : Launch) (Z : State) (aw : Array Value) (hw : ∀ d ∈ tables_1, d.before aw Z = true) (ws : List Jvm.Cond) (a1 : Addr)  (h0 : Heap) (n0 : Nat) (Z0 : n0 ≤ h0.size) (F0 : own_AL Z h0 a1) :
    MetFree l (⟨"java/util/ArrayList", "size", "()I"⟩ : MethodName) (head1 (Jvm.Cond.code (⟨"java/util/ArrayList", "size", "()I"⟩ : MethodName) jdk_38_method_8_code 1 (some .int) :: ws) ({ frames := 0, cells := 0, slots := 0, locals := 0 } : Room)) (fun a U => a = #[(.ref a1)] ∧ Z.Warmed39 U.vm ∧ U.heap = h0) (fun _ _ _ _ _ => True) (fun _ U o U' => ∃ v L, o = .returned v ∧ own_Qsiz Z a1 h0 n0 v U'.heap L ∧ FrameEnd U o U' L ({ frames := 0, cells := 0, slots := 0, locals := 0 } : Room).cells ({ frames := 0, cells := 0, slots := 0, locals := 0 } : Room).slots) := by
  refine own_met (Q := own_Qsiz Z a1 h0 n0) (plainFor_of_name own_pn2) ?_
  intro p e s m below meth c s₁ K hx hby hml hown hnm hret hZ X0 e0 hK
  have hown : s.vm.findClass "java/util/ArrayList" = some m.cls := hown
  have N0 := Fr.nil n0
  refine own_by (fun t k => castTop (own_efsiz m a1) k) ?_
  show own_Go p.tables e below K (s₁.setTop (mkF m 0 #[.val (.ref a1)] []))
  refine own_by (fun t k => XS.aloadN X0.here hx rfl (hb hby own_d20_0) rfl rfl k) ?_
  show own_Go p.tables e below K (s₁.setTop (mkF m 1 #[.val (.ref a1)] [(.ref a1)]))
  obtain ⟨T23, X23, e23, st23⟩ := getF X0 hx hZ hown (host := "") (Or.inl (hw _ (List.mem_of_getElem? (i := 171) rfl))) Via.refl e0 F0.2.2 (g := (mkF m 1 #[.val (.ref a1)] [(.ref a1)])) rfl rfl (hb hby own_d20_1)
  refine own_by st23 ?_
  show own_Go p.tables e below K (T23.setTop (mkF m 4 #[.val (.ref a1)] [(.int (0 : Int32))]))
  exact own_retI X23 hx hret (hb hby own_d20_4) (hK (some (.int (0 : Int32))) X23 (fun h => by rw [hret] at h; cases h) (⟨by simp [own_emp, *], N0, e23⟩) (by decide) (by decide))
theorem own_pn14 : plainName "java/util/ArrayList$Itr" = true := by first | (simp [plainName, overriddenIn]; done) | decide +kernel
theorem own_d14_0 : decode jdk_49_method_2_code 0 = .ok (.aload_n 0, 1) := by decide +kernel
theorem own_d14_1 : decode jdk_49_method_2_code 1 = .ok (.getfield 25, 3) := by decide +kernel
theorem own_d14_4 : decode jdk_49_method_2_code 4 = .ok (.aload_n 0, 1) := by decide +kernel
theorem own_d14_5 : decode jdk_49_method_2_code 5 = .ok (.getfield 1, 3) := by decide +kernel
theorem own_d14_8 : decode jdk_49_method_2_code 8 = .ok (.getfield 28, 3) := by decide +kernel
theorem own_d14_11 : decode jdk_49_method_2_code 11 = .ok (.if_icmp .eq 7, 3) := by decide +kernel
theorem own_d14_18 : decode jdk_49_method_2_code 18 = .ok (.iconst 0, 1) := by decide +kernel
theorem own_d14_19 : decode jdk_49_method_2_code 19 = .ok (.ireturn, 1) := by decide +kernel
theorem own_efhas (m : MethodId) (a1 : Addr) : entryFrame m #[(.ref a1)] 1 = mkF m 0 #[.val (.ref a1)] [] := by first | (simp [entryFrame, mkF, argsToLocals, Value.category]; done) | rfl
def own_Qhas (Z : State) (a1 : Addr) (al : Addr) (h0 : Heap) (n0 : Nat) (v : Option Value) (h : Heap) (L : List Loc) : Prop := v = some (.int (0 : Int32)) ∧ Fr n0 L ∧ h = h0
set_option maxRecDepth 65536 in
set_option maxHeartbeats 40000000 in
theorem own_rmhas (l : Launch) (Z : State) (aw : Array Value) (hw : ∀ d ∈ tables_1, d.before aw Z = true) (ws : List Jvm.Cond) (a1 : Addr) (al : Addr) (h0 : Heap) (n0 : Nat) (Z0 : n0 ≤ h0.size) (I0 : own_It Z h0 a1 al) (F0 : own_AL Z h0 al) :
    MetFree l (⟨"java/util/ArrayList$Itr", "hasNext", "()Z"⟩ : MethodName) (head1 (Jvm.Cond.code (⟨"java/util/ArrayList$Itr", "hasNext", "()Z"⟩ : MethodName) jdk_49_method_2_code 1 (some .boolean) :: ws) ({ frames := 0, cells := 0, slots := 0, locals := 0 } : Room)) (fun a U => a = #[(.ref a1)] ∧ Z.Warmed39 U.vm ∧ U.heap = h0) (fun _ _ _ _ _ => True) (fun _ U o U' => ∃ v L, o = .returned v ∧ own_Qhas Z a1 al h0 n0 v U'.heap L ∧ FrameEnd U o U' L ({ frames := 0, cells := 0, slots := 0, locals := 0 } : Room).cells ({ frames := 0, cells := 0, slots := 0, locals := 0 } : Room).slots) := by
  refine own_met (Q := own_Qhas Z a1 al h0 n0) (plainFor_of_name own_pn14) ?_
  intro p e s m below meth c s₁ K hx hby hml hown hnm hret hZ X0 e0 hK
  have hown : s.vm.findClass "java/util/ArrayList$Itr" = some m.cls := hown
  have N0 := Fr.nil n0
  refine own_by (fun t k => castTop (own_efhas m a1) k) ?_
  show own_Go p.tables e below K (s₁.setTop (mkF m 0 #[.val (.ref a1)] []))
  refine own_by (fun t k => XS.aloadN X0.here hx rfl (hb hby own_d14_0) rfl rfl k) ?_
  show own_Go p.tables e below K (s₁.setTop (mkF m 1 #[.val (.ref a1)] [(.ref a1)]))
  obtain ⟨T24, X24, e24, st24⟩ := getF X0 hx hZ hown (host := "") (Or.inl (hw _ (List.mem_of_getElem? (i := 117) rfl))) Via.refl e0 I0.2.2 (g := (mkF m 1 #[.val (.ref a1)] [(.ref a1)])) rfl rfl (hb hby own_d14_1)
  refine own_by st24 ?_
  show own_Go p.tables e below K (T24.setTop (mkF m 4 #[.val (.ref a1)] [(.int (0 : Int32))]))
  refine own_by (fun t k => XS.aloadN X24.here hx rfl (hb hby own_d14_4) rfl rfl k) ?_
  show own_Go p.tables e below K (T24.setTop (mkF m 5 #[.val (.ref a1)] [(.ref a1), (.int (0 : Int32))]))
  obtain ⟨T25, X25, e25, st25⟩ := getF X24 hx hZ hown (host := "") (Or.inl (hw _ (List.mem_of_getElem? (i := 99) rfl))) Via.refl e24 I0.2.1 (g := (mkF m 5 #[.val (.ref a1)] [(.ref a1), (.int (0 : Int32))])) rfl rfl (hb hby own_d14_5)
  refine own_by st25 ?_
  show own_Go p.tables e below K (T25.setTop (mkF m 8 #[.val (.ref a1)] [(.ref al), (.int (0 : Int32))]))
  obtain ⟨T26, X26, e26, st26⟩ := getF X25 hx hZ hown (Or.inr (hw _ (List.mem_of_getElem? (i := 119) rfl))) Via.refl e25 F0.2.2 (g := (mkF m 8 #[.val (.ref a1)] [(.ref al), (.int (0 : Int32))])) rfl rfl (hb hby own_d14_8)
  refine own_by st26 ?_
  show own_Go p.tables e below K (T26.setTop (mkF m 11 #[.val (.ref a1)] [(.int (0 : Int32)), (.int (0 : Int32))]))
  have hc11 : (0 : Int32) = (0 : Int32) := by decide
  refine own_by (fun t k => XS.icmpYes X26.here hx rfl (pc0 := 11) (pc' := 18) rfl (hb hby own_d14_11) rfl (teq hc11).1 (by decide) (by decide) k) ?_
  show own_Go p.tables e below K (T26.setTop (mkF m 18 #[.val (.ref a1)] []))
  refine own_by (fun t k => XS.iconst X26.here hx rfl (hb hby own_d14_18) k) ?_
  show own_Go p.tables e below K (T26.setTop (mkF m 19 #[.val (.ref a1)] [(.int (0 : Int32))]))
  exact own_retZ X26 hx (t := .boolean) hret (by simp) (hb hby own_d14_19) (hK (some (.int (0 : Int32))) X26 (fun h => by rw [hret] at h; cases h) (⟨by simp [own_emp, *], N0, e26⟩) (by decide) (by decide))
theorem own_d19_0 : decode jdk_21_method_6_code 0 = .ok (.iinc 0 1, 3) := by decide +kernel
theorem own_d19_3 : decode jdk_21_method_6_code 3 = .ok (.iload_n 0, 1) := by decide +kernel
theorem own_d19_4 : decode jdk_21_method_6_code 4 = .ok (.iload_n 1, 1) := by decide +kernel
theorem own_d19_5 : decode jdk_21_method_6_code 5 = .ok (.if_icmp .lt 5, 3) := by decide +kernel
theorem own_d19_8 : decode jdk_21_method_6_code 8 = .ok (.iconst 0, 1) := by decide +kernel
theorem own_d19_9 : decode jdk_21_method_6_code 9 = .ok (.istore_n 0, 1) := by decide +kernel
theorem own_d19_10 : decode jdk_21_method_6_code 10 = .ok (.iload_n 0, 1) := by decide +kernel
theorem own_d19_11 : decode jdk_21_method_6_code 11 = .ok (.ireturn, 1) := by decide +kernel
theorem own_efinc (m : MethodId) (q1 : Int32) (q2 : Int32) : entryFrame m #[(.int q1), (.int q2)] 2 = mkF m 0 #[.val (.int q1), .val (.int q2)] [] := by first | (simp [entryFrame, mkF, argsToLocals, Value.category]; done) | rfl
def own_Qinc (Z : State) (q1 : Int32) (q2 : Int32) (h0 : Heap) (n0 : Nat) (v : Option Value) (h : Heap) (L : List Loc) : Prop := v = some (.int (own_inc q1 q2)) ∧ Fr n0 L ∧ h = h0
set_option maxRecDepth 65536 in
set_option maxHeartbeats 40000000 in
theorem own_rminc (l : Launch) (Z : State) (aw : Array Value) (hw : ∀ d ∈ tables_1, d.before aw Z = true) (ws : List Jvm.Cond) (q1 : Int32) (q2 : Int32) (h0 : Heap) (n0 : Nat) (Z0 : n0 ≤ h0.size)  :
    MetFree l (⟨"java/util/ArrayDeque", "inc", "(II)I"⟩ : MethodName) (head1 (Jvm.Cond.code (⟨"java/util/ArrayDeque", "inc", "(II)I"⟩ : MethodName) jdk_21_method_6_code 2 (some .int) :: ws) ({ frames := 0, cells := 0, slots := 0, locals := 0 } : Room)) (fun a U => a = #[(.int q1), (.int q2)] ∧ Z.Warmed39 U.vm ∧ U.heap = h0) (fun _ _ _ _ _ => True) (fun _ U o U' => ∃ v L, o = .returned v ∧ own_Qinc Z q1 q2 h0 n0 v U'.heap L ∧ FrameEnd U o U' L ({ frames := 0, cells := 0, slots := 0, locals := 0 } : Room).cells ({ frames := 0, cells := 0, slots := 0, locals := 0 } : Room).slots) := by
  refine own_met (Q := own_Qinc Z q1 q2 h0 n0) (plainFor_of_name own_pn9) ?_
  intro p e s m below meth c s₁ K hx hby hml hown hnm hret hZ X0 e0 hK
  have hown : s.vm.findClass "java/util/ArrayDeque" = some m.cls := hown
  have N0 := Fr.nil n0
  refine own_by (fun t k => castTop (own_efinc m q1 q2) k) ?_
  show own_Go p.tables e below K (s₁.setTop (mkF m 0 #[.val (.int q1), .val (.int q2)] []))
  refine own_by (fun t k => XS.iinc X0.here hx rfl (hb hby own_d19_0) rfl (l' := #[.val (.int (q1 + (1 : Int32))), .val (.int q2)]) rfl k) ?_
  show own_Go p.tables e below K (s₁.setTop (mkF m 3 #[.val (.int (q1 + (1 : Int32))), .val (.int q2)] []))
  refine own_by (fun t k => XS.iloadN X0.here hx rfl (hb hby own_d19_3) rfl k) ?_
  show own_Go p.tables e below K (s₁.setTop (mkF m 4 #[.val (.int (q1 + (1 : Int32))), .val (.int q2)] [(.int (q1 + (1 : Int32)))]))
  refine own_by (fun t k => XS.iloadN X0.here hx rfl (hb hby own_d19_4) rfl k) ?_
  show own_Go p.tables e below K (s₁.setTop (mkF m 5 #[.val (.int (q1 + (1 : Int32))), .val (.int q2)] [(.int q2), (.int (q1 + (1 : Int32)))]))
  by_cases hc5 : (q1 + (1 : Int32)) < q2
  · refine own_by (fun t k => XS.icmpYes X0.here hx rfl (pc0 := 5) (pc' := 10) rfl (hb hby own_d19_5) rfl (tlt hc5).1 (by decide) (by decide) k) ?_
    show own_Go p.tables e below K (s₁.setTop (mkF m 10 #[.val (.int (q1 + (1 : Int32))), .val (.int q2)] []))
    refine own_by (fun t k => XS.iloadN X0.here hx rfl (hb hby own_d19_10) rfl k) ?_
    show own_Go p.tables e below K (s₁.setTop (mkF m 11 #[.val (.int (q1 + (1 : Int32))), .val (.int q2)] [(.int (q1 + (1 : Int32)))]))
    exact own_retI X0 hx hret (hb hby own_d19_11) (hK (some (.int (q1 + (1 : Int32)))) X0 (fun h => by rw [hret] at h; cases h) (⟨by simp [own_inc, *], N0, e0⟩) (by decide) (by decide))
  · refine own_by (fun t k => XS.icmpNo X0.here hx rfl (hb hby own_d19_5) rfl (flt hc5).1 k) ?_
    show own_Go p.tables e below K (s₁.setTop (mkF m 8 #[.val (.int (q1 + (1 : Int32))), .val (.int q2)] []))
    refine own_by (fun t k => XS.iconst X0.here hx rfl (hb hby own_d19_8) k) ?_
    show own_Go p.tables e below K (s₁.setTop (mkF m 9 #[.val (.int (q1 + (1 : Int32))), .val (.int q2)] [(.int (0 : Int32))]))
    refine own_by (fun t k => XS.istoreN X0.here hx rfl (hb hby own_d19_9) rfl (l' := #[.val (.int (0 : Int32)), .val (.int q2)]) rfl k) ?_
    show own_Go p.tables e below K (s₁.setTop (mkF m 10 #[.val (.int (0 : Int32)), .val (.int q2)] []))
    refine own_by (fun t k => XS.iloadN X0.here hx rfl (hb hby own_d19_10) rfl k) ?_
    show own_Go p.tables e below K (s₁.setTop (mkF m 11 #[.val (.int (0 : Int32)), .val (.int q2)] [(.int (0 : Int32))]))
    exact own_retI X0 hx hret (hb hby own_d19_11) (hK (some (.int (0 : Int32))) X0 (fun h => by rw [hret] at h; cases h) (⟨by simp [own_inc, *], N0, e0⟩) (by decide) (by decide))
theorem own_d13_0 : decode jdk_49_method_1_code 0 = .ok (.aload_n 0, 1) := by decide +kernel
theorem own_d13_1 : decode jdk_49_method_1_code 1 = .ok (.aload_n 1, 1) := by decide +kernel
theorem own_d13_2 : decode jdk_49_method_1_code 2 = .ok (.putfield 1, 3) := by decide +kernel
theorem own_d13_5 : decode jdk_49_method_1_code 5 = .ok (.aload_n 0, 1) := by decide +kernel
theorem own_d13_6 : decode jdk_49_method_1_code 6 = .ok (.invokespecial 7, 3) := by decide +kernel
theorem own_d13_9 : decode jdk_49_method_1_code 9 = .ok (.aload_n 0, 1) := by decide +kernel
theorem own_d13_10 : decode jdk_49_method_1_code 10 = .ok (.iconst (-1), 1) := by decide +kernel
theorem own_d13_11 : decode jdk_49_method_1_code 11 = .ok (.putfield 13, 3) := by decide +kernel
theorem own_d13_14 : decode jdk_49_method_1_code 14 = .ok (.aload_n 0, 1) := by decide +kernel
theorem own_d13_15 : decode jdk_49_method_1_code 15 = .ok (.aload_n 0, 1) := by decide +kernel
theorem own_d13_16 : decode jdk_49_method_1_code 16 = .ok (.getfield 1, 3) := by decide +kernel
theorem own_d13_19 : decode jdk_49_method_1_code 19 = .ok (.getfield 17, 3) := by decide +kernel
theorem own_d13_22 : decode jdk_49_method_1_code 22 = .ok (.putfield 22, 3) := by decide +kernel
theorem own_d13_25 : decode jdk_49_method_1_code 25 = .ok (.return_, 1) := by decide +kernel
theorem own_efitn (m : MethodId) (a1 : Addr) (al : Addr) : entryFrame m #[(.ref a1), (.ref al)] 2 = mkF m 0 #[.val (.ref a1), .val (.ref al)] [] := by first | (simp [entryFrame, mkF, argsToLocals, Value.category]; done) | rfl
def own_Qitn (Z : State) (a1 : Addr) (al : Addr) (h0 : Heap) (n0 : Nat) (v : Option Value) (h : Heap) (L : List Loc) : Prop := v = none ∧ Fr n0 L ∧ Keep h0 h [a1] ∧ own_It Z h a1 al
set_option maxRecDepth 65536 in
set_option maxHeartbeats 40000000 in
theorem own_rmitn (l : Launch) (Z : State) (aw : Array Value) (hw : ∀ d ∈ tables_1, d.before aw Z = true) (ws : List Jvm.Cond) (a1 : Addr) (al : Addr) (h0 : Heap) (n0 : Nat) (Z0 : n0 ≤ h0.size) (E0 : Exa Z h0 a1 "java/util/ArrayList$Itr") (ga : n0 ≤ a1) (F0_this_0 : Fld Z h0 a1 "java/util/ArrayList$Itr" "this$0" "Ljava/util/ArrayList;" .null) (F0_lastRet : Fld Z h0 a1 "java/util/ArrayList$Itr" "lastRet" "I" (.int (0 : Int32))) (F0_expectedModCount : Fld Z h0 a1 "java/util/ArrayList$Itr" "expectedModCount" "I" (.int (0 : Int32))) (F0_cursor : Fld Z h0 a1 "java/util/ArrayList$Itr" "cursor" "I" (.int (0 : Int32))) (B0 : own_AL Z h0 al) (hne : a1 ≠ al) :
    MetFree l (⟨"java/util/ArrayList$Itr", "<init>", "(Ljava/util/ArrayList;)V"⟩ : MethodName) (head1 (Jvm.Cond.code (⟨"java/util/ArrayList$Itr", "<init>", "(Ljava/util/ArrayList;)V"⟩ : MethodName) jdk_49_method_1_code 2 none :: ws) ({ frames := 1, cells := 0, slots := 0, locals := 12 } : Room)) (fun a U => a = #[(.ref a1), (.ref al)] ∧ Z.Warmed39 U.vm ∧ U.heap = h0) (fun _ _ _ _ _ => True) (fun _ U o U' => ∃ v L, o = .returned v ∧ own_Qitn Z a1 al h0 n0 v U'.heap L ∧ FrameEnd U o U' L ({ frames := 1, cells := 0, slots := 0, locals := 12 } : Room).cells ({ frames := 1, cells := 0, slots := 0, locals := 12 } : Room).slots) := by
  refine own_met (Q := own_Qitn Z a1 al h0 n0) (plainFor_of_name own_pn14) ?_
  intro p e s m below meth c s₁ K hx hby hml hown hnm hret hZ X0 e0 hK
  have hown : s.vm.findClass "java/util/ArrayList$Itr" = some m.cls := hown
  have hnm : meth.name = "<init>" := hnm
  have N0 := Fr.nil n0
  refine own_by (fun t k => castTop (own_efitn m a1 al) k) ?_
  show own_Go p.tables e below K (s₁.setTop (mkF m 0 #[.val (.ref a1), .val (.ref al)] []))
  refine own_by (fun t k => XS.aloadN X0.here hx rfl (hb hby own_d13_0) rfl rfl k) ?_
  show own_Go p.tables e below K (s₁.setTop (mkF m 1 #[.val (.ref a1), .val (.ref al)] [(.ref a1)]))
  refine own_by (fun t k => XS.aloadN X0.here hx rfl (hb hby own_d13_1) rfl rfl k) ?_
  show own_Go p.tables e below K (s₁.setTop (mkF m 2 #[.val (.ref a1), .val (.ref al)] [(.ref al), (.ref a1)]))
  obtain ⟨T27, h27, X27, e27, W27, st27⟩ := putF X0 hx hZ hown (host := "") (Or.inl (hw _ (List.mem_of_getElem? (i := 99) rfl))) Via.refl e0 F0_this_0 E0 (Or.inr ⟨(hw _ (List.mem_of_getElem? (i := 100) rfl)), rfl, hnm⟩) (hw _ (List.mem_of_getElem? (i := 93) rfl)) (ty := (.object "java/util/ArrayList")) (by decide) rfl rfl (g := (mkF m 2 #[.val (.ref a1), .val (.ref al)] [(.ref al), (.ref a1)])) rfl rfl (hb hby own_d13_2)
  refine own_by st27 ?_
  have F27_this_0_a1 := F0_this_0.same W27
  have F27_lastRet_a1 := F0_lastRet.other W27 (Or.inr (slot_ne (Or.inl (hw _ (List.mem_of_getElem? (i := 103) rfl))) (Or.inr (hw _ (List.mem_of_getElem? (i := 100) rfl))) (by decide) (t := .int) (t' := (.object "java/util/ArrayList")) (by decide) (by decide)))
  have F27_expectedModCount_a1 := F0_expectedModCount.other W27 (Or.inr (slot_ne (Or.inl (hw _ (List.mem_of_getElem? (i := 107) rfl))) (Or.inr (hw _ (List.mem_of_getElem? (i := 100) rfl))) (by decide) (t := .int) (t' := (.object "java/util/ArrayList")) (by decide) (by decide)))
  have F27_cursor_a1 := F0_cursor.other W27 (Or.inr (slot_ne (Or.inl (hw _ (List.mem_of_getElem? (i := 118) rfl))) (Or.inr (hw _ (List.mem_of_getElem? (i := 100) rfl))) (by decide) (t := .int) (t' := (.object "java/util/ArrayList")) (by decide) (by decide)))
  have F27_modCount_al := B0.2.1.other W27 (Or.inl (Ne.symm hne))
  have F27_size_al := B0.2.2.other W27 (Or.inl (Ne.symm hne))
  have Ex27_a1 := E0.wr W27
  have Ex27_al := B0.1.wr W27
  have K27 := (Keep.refl h0 [a1]).wr W27 (Or.inl (by simp))
  have Z27 := Nat.le_trans Z0 (Keep.of_wr W27).1
  have N27 := Fr.snoc X27 N0 ga
  show own_Go p.tables e below K (T27.setTop (mkF m 5 #[.val (.ref a1), .val (.ref al)] []))
  refine own_by (fun t k => XS.aloadN X27.here hx rfl (hb hby own_d13_5) rfl rfl k) ?_
  show own_Go p.tables e below K (T27.setTop (mkF m 6 #[.val (.ref a1), .val (.ref al)] [(.ref a1)]))
  obtain ⟨T28, X28, e28, st28⟩ := initO X27 hx hZ hown (hw _ (List.mem_of_getElem? (i := 101) rfl)) (hw _ (List.mem_of_getElem? (i := 25) rfl)) (hw _ (List.mem_of_getElem? (i := 26) rfl)) e27 (g := (mkF m 6 #[.val (.ref a1), .val (.ref al)] [(.ref a1)])) rfl (by rw [hml]; rfl) rfl (hb hby own_d13_6) (by decide) (W := 0) (by show 2 * 0 + _ ≤ _; exact Nat.le_of_eq rfl) (by decide)
  refine own_by st28 ?_
  show own_Go p.tables e below K (T28.setTop (mkF m 9 #[.val (.ref a1), .val (.ref al)] []))
  refine own_by (fun t k => XS.aloadN X28.here hx rfl (hb hby own_d13_9) rfl rfl k) ?_
  show own_Go p.tables e below K (T28.setTop (mkF m 10 #[.val (.ref a1), .val (.ref al)] [(.ref a1)]))
  refine own_by (fun t k => XS.iconst X28.here hx rfl (hb hby own_d13_10) k) ?_
  show own_Go p.tables e below K (T28.setTop (mkF m 11 #[.val (.ref a1), .val (.ref al)] [(.int (-1 : Int32)), (.ref a1)]))
  obtain ⟨T29, h29, X29, e29, W29, st29⟩ := putF X28 hx hZ hown (host := "") (Or.inl (hw _ (List.mem_of_getElem? (i := 102) rfl))) Via.refl e28 F27_lastRet_a1 Ex27_a1 (Or.inl (hw _ (List.mem_of_getElem? (i := 103) rfl))) (hw _ (List.mem_of_getElem? (i := 93) rfl)) (ty := .int) (by decide) rfl rfl (g := (mkF m 11 #[.val (.ref a1), .val (.ref al)] [(.int (-1 : Int32)), (.ref a1)])) rfl rfl (hb hby own_d13_11)
  refine own_by st29 ?_
  have F29_this_0_a1 := F27_this_0_a1.other W29 (Or.inr (slot_ne (Or.inr (hw _ (List.mem_of_getElem? (i := 100) rfl))) (Or.inl (hw _ (List.mem_of_getElem? (i := 103) rfl))) (by decide) (t := (.object "java/util/ArrayList")) (t' := .int) (by decide) (by decide)))
  have F29_lastRet_a1 := F27_lastRet_a1.same W29
  have F29_expectedModCount_a1 := F27_expectedModCount_a1.other W29 (Or.inr (slot_ne (Or.inl (hw _ (List.mem_of_getElem? (i := 107) rfl))) (Or.inl (hw _ (List.mem_of_getElem? (i := 103) rfl))) (by decide) (t := .int) (t' := .int) (by decide) (by decide)))
  have F29_cursor_a1 := F27_cursor_a1.other W29 (Or.inr (slot_ne (Or.inl (hw _ (List.mem_of_getElem? (i := 118) rfl))) (Or.inl (hw _ (List.mem_of_getElem? (i := 103) rfl))) (by decide) (t := .int) (t' := .int) (by decide) (by decide)))
  have F29_modCount_al := F27_modCount_al.other W29 (Or.inl (Ne.symm hne))
  have F29_size_al := F27_size_al.other W29 (Or.inl (Ne.symm hne))
  have Ex29_a1 := Ex27_a1.wr W29
  have Ex29_al := Ex27_al.wr W29
  have K29 := K27.wr W29 (Or.inl (by simp))
  have Z29 := Nat.le_trans Z27 (Keep.of_wr W29).1
  have N29 := Fr.snoc X29 N27 ga
  show own_Go p.tables e below K (T29.setTop (mkF m 14 #[.val (.ref a1), .val (.ref al)] []))
  refine own_by (fun t k => XS.aloadN X29.here hx rfl (hb hby own_d13_14) rfl rfl k) ?_
  show own_Go p.tables e below K (T29.setTop (mkF m 15 #[.val (.ref a1), .val (.ref al)] [(.ref a1)]))
  refine own_by (fun t k => XS.aloadN X29.here hx rfl (hb hby own_d13_15) rfl rfl k) ?_
  show own_Go p.tables e below K (T29.setTop (mkF m 16 #[.val (.ref a1), .val (.ref al)] [(.ref a1), (.ref a1)]))
  obtain ⟨T30, X30, e30, st30⟩ := getF X29 hx hZ hown (host := "") (Or.inl (hw _ (List.mem_of_getElem? (i := 99) rfl))) Via.refl e29 F29_this_0_a1 (g := (mkF m 16 #[.val (.ref a1), .val (.ref al)] [(.ref a1), (.ref a1)])) rfl rfl (hb hby own_d13_16)
  refine own_by st30 ?_
  show own_Go p.tables e below K (T30.setTop (mkF m 19 #[.val (.ref a1), .val (.ref al)] [(.ref al), (.ref a1)]))
  obtain ⟨T31, X31, e31, st31⟩ := getF X30 hx hZ hown (host := "") (Or.inl (hw _ (List.mem_of_getElem? (i := 104) rfl))) (Via.of (hw _ (List.mem_of_getElem? (i := 105) rfl))) e30 F29_modCount_al (g := (mkF m 19 #[.val (.ref a1), .val (.ref al)] [(.ref al), (.ref a1)])) rfl rfl (hb hby own_d13_19)
  refine own_by st31 ?_
  show own_Go p.tables e below K (T31.setTop (mkF m 22 #[.val (.ref a1), .val (.ref al)] [(.int (0 : Int32)), (.ref a1)]))
  obtain ⟨T32, h32, X32, e32, W32, st32⟩ := putF X31 hx hZ hown (host := "") (Or.inl (hw _ (List.mem_of_getElem? (i := 106) rfl))) Via.refl e31 F29_expectedModCount_a1 Ex29_a1 (Or.inl (hw _ (List.mem_of_getElem? (i := 107) rfl))) (hw _ (List.mem_of_getElem? (i := 93) rfl)) (ty := .int) (by decide) rfl rfl (g := (mkF m 22 #[.val (.ref a1), .val (.ref al)] [(.int (0 : Int32)), (.ref a1)])) rfl rfl (hb hby own_d13_22)
  refine own_by st32 ?_
  have F32_this_0_a1 := F29_this_0_a1.other W32 (Or.inr (slot_ne (Or.inr (hw _ (List.mem_of_getElem? (i := 100) rfl))) (Or.inl (hw _ (List.mem_of_getElem? (i := 107) rfl))) (by decide) (t := (.object "java/util/ArrayList")) (t' := .int) (by decide) (by decide)))
  have F32_lastRet_a1 := F29_lastRet_a1.other W32 (Or.inr (slot_ne (Or.inl (hw _ (List.mem_of_getElem? (i := 103) rfl))) (Or.inl (hw _ (List.mem_of_getElem? (i := 107) rfl))) (by decide) (t := .int) (t' := .int) (by decide) (by decide)))
  have F32_expectedModCount_a1 := F29_expectedModCount_a1.same W32
  have F32_cursor_a1 := F29_cursor_a1.other W32 (Or.inr (slot_ne (Or.inl (hw _ (List.mem_of_getElem? (i := 118) rfl))) (Or.inl (hw _ (List.mem_of_getElem? (i := 107) rfl))) (by decide) (t := .int) (t' := .int) (by decide) (by decide)))
  have F32_modCount_al := F29_modCount_al.other W32 (Or.inl (Ne.symm hne))
  have F32_size_al := F29_size_al.other W32 (Or.inl (Ne.symm hne))
  have Ex32_a1 := Ex29_a1.wr W32
  have Ex32_al := Ex29_al.wr W32
  have K32 := K29.wr W32 (Or.inl (by simp))
  have Z32 := Nat.le_trans Z29 (Keep.of_wr W32).1
  have N32 := Fr.snoc X32 N29 ga
  show own_Go p.tables e below K (T32.setTop (mkF m 25 #[.val (.ref a1), .val (.ref al)] []))
  exact own_retV X32 hx hret (hb hby own_d13_25) (hK none X32 (fun _ => rfl) (by rw [e32]; exact ⟨rfl, N32, K32, ⟨Ex32_a1, F32_this_0_a1, F32_cursor_a1⟩⟩) (by decide) (by decide))
theorem own_pd1 : parseMethodDescriptor "(Ljava/util/ArrayList;)V" = some ⟨[(.object "java/util/ArrayList")], none⟩ := by decide +kernel
theorem own_d12_0 : decode jdk_38_method_55_code 0 = .ok (.new 267, 3) := by decide +kernel
theorem own_d12_3 : decode jdk_38_method_55_code 3 = .ok (.dup, 1) := by decide +kernel
theorem own_d12_4 : decode jdk_38_method_55_code 4 = .ok (.aload_n 0, 1) := by decide +kernel
theorem own_d12_5 : decode jdk_38_method_55_code 5 = .ok (.invokespecial 269, 3) := by decide +kernel
theorem own_d12_8 : decode jdk_38_method_55_code 8 = .ok (.areturn, 1) := by decide +kernel
theorem own_efitr (m : MethodId) (al : Addr) : entryFrame m #[(.ref al)] 1 = mkF m 0 #[.val (.ref al)] [] := by first | (simp [entryFrame, mkF, argsToLocals, Value.category]; done) | rfl
def own_Qitr (Z : State) (al : Addr) (h0 : Heap) (n0 : Nat) (v : Option Value) (h : Heap) (L : List Loc) : Prop := ∃ it : Addr, v = some (.ref it) ∧ Fr n0 L ∧ Keep h0 h [] ∧ own_It Z h it al
set_option maxRecDepth 65536 in
set_option maxHeartbeats 40000000 in
theorem own_rmitr (l : Launch) (Z : State) (aw : Array Value) (hw : ∀ d ∈ tables_1, d.before aw Z = true) (ws : List Jvm.Cond) (al : Addr) (h0 : Heap) (n0 : Nat) (Z0 : n0 ≤ h0.size) (B0 : own_AL Z h0 al) :
    MetFree l (⟨"java/util/ArrayList", "iterator", "()Ljava/util/Iterator;"⟩ : MethodName) (head1 (Jvm.Cond.code (⟨"java/util/ArrayList", "iterator", "()Ljava/util/Iterator;"⟩ : MethodName) jdk_38_method_55_code 1 (some (.object "java/util/Iterator")) :: ws) ({ frames := 2, cells := 1, slots := 4, locals := 30 } : Room)) (fun a U => a = #[(.ref al)] ∧ Z.Warmed39 U.vm ∧ U.heap = h0) (fun _ _ _ _ _ => True) (fun _ U o U' => ∃ v L, o = .returned v ∧ own_Qitr Z al h0 n0 v U'.heap L ∧ FrameEnd U o U' L ({ frames := 2, cells := 1, slots := 4, locals := 30 } : Room).cells ({ frames := 2, cells := 1, slots := 4, locals := 30 } : Room).slots) := by
  refine own_met (Q := own_Qitr Z al h0 n0) (plainFor_of_name own_pn2) ?_
  intro p e s m below meth c s₁ K hx hby hml hown hnm hret hZ X0 e0 hK
  have hown : s.vm.findClass "java/util/ArrayList" = some m.cls := hown
  have N0 := Fr.nil n0
  refine own_by (fun t k => castTop (own_efitr m al) k) ?_
  show own_Go p.tables e below K (s₁.setTop (mkF m 0 #[.val (.ref al)] []))
  obtain ⟨T33, h33, X33, e33, E33, A33, D33, -, st33⟩ := newO X0 hx hZ hown (hw _ (List.mem_of_getElem? (i := 92) rfl)) (hw _ (List.mem_of_getElem? (i := 93) rfl)) (hw _ (List.mem_of_getElem? (i := 94) rfl)) e0 (g := (mkF m 0 #[.val (.ref al)] [])) rfl (hb hby own_d12_0) (by decide) (by decide)
  obtain ⟨b33, g33⟩ : ∃ z, z = h0.size := ⟨_, rfl⟩
  rw [← g33] at A33 D33 st33
  refine own_by st33 ?_
  have gn_b33 : n0 ≤ b33 := Nat.le_trans Z0 (Nat.le_of_eq g33.symm)
  have sz_b33 : h0.size ≤ b33 := Nat.le_trans (Keep.refl h0 []).1 (Nat.le_of_eq g33.symm)
  have ne_al_b33 : al ≠ b33 := Nat.ne_of_lt (Nat.lt_of_lt_of_le B0.1.lt (Nat.le_of_eq g33.symm))
  have F33_modCount_al := B0.2.1.ext E33
  have F33_size_al := B0.2.2.ext E33
  have Ex33_al := B0.1.ext E33
  have K33 := (Keep.refl h0 []).ext E33
  have Z33 := Nat.le_trans Z0 E33.1
  have F33_this_0_b33 : Fld Z h33 b33 "java/util/ArrayList$Itr" "this$0" "Ljava/util/ArrayList;" .null := D33 (Or.inr (hw _ (List.mem_of_getElem? (i := 100) rfl))) (ty := (.object "java/util/ArrayList")) (by decide)
  have F33_lastRet_b33 : Fld Z h33 b33 "java/util/ArrayList$Itr" "lastRet" "I" (.int (0 : Int32)) := D33 (Or.inl (hw _ (List.mem_of_getElem? (i := 103) rfl))) (ty := .int) (by decide)
  have F33_expectedModCount_b33 : Fld Z h33 b33 "java/util/ArrayList$Itr" "expectedModCount" "I" (.int (0 : Int32)) := D33 (Or.inl (hw _ (List.mem_of_getElem? (i := 107) rfl))) (ty := .int) (by decide)
  have F33_cursor_b33 : Fld Z h33 b33 "java/util/ArrayList$Itr" "cursor" "I" (.int (0 : Int32)) := D33 (Or.inl (hw _ (List.mem_of_getElem? (i := 118) rfl))) (ty := .int) (by decide)
  show own_Go p.tables e below K (T33.setTop (mkF m 3 #[.val (.ref al)] [(.ref b33)]))
  refine own_by (fun t k => XS.dup X33.here hx rfl (hb hby own_d12_3) rfl rfl k) ?_
  show own_Go p.tables e below K (T33.setTop (mkF m 4 #[.val (.ref al)] [(.ref b33), (.ref b33)]))
  refine own_by (fun t k => XS.aloadN X33.here hx rfl (hb hby own_d12_4) rfl rfl k) ?_
  show own_Go p.tables e below K (T33.setTop (mkF m 5 #[.val (.ref al)] [(.ref al), (.ref b33), (.ref b33)]))
  obtain ⟨_, _, ⟨T34, L34, k34, n34⟩, -, X34, ⟨Lc34, hQ34, l34, y34, z34⟩, st34⟩ := X33.specialBack hx (y := (⟨"java/util/ArrayList$Itr", "<init>", "(Ljava/util/ArrayList;)V"⟩ : MethodName)) rfl hown (mvT hZ (hw _ (List.mem_of_getElem? (i := 95) rfl))) (mvT hZ (hw _ (List.mem_of_getElem? (i := 96) rfl))) (mvT hZ (hw _ (List.mem_of_getElem? (i := 98) rfl))) (by decide) (backOf (W := 1) (own_rmitn l Z aw hw [] b33 al h33 n0 Z33 A33 gn_b33 F33_this_0_b33 F33_lastRet_b33 F33_expectedModCount_b33 F33_cursor_b33 ⟨Ex33_al, F33_modCount_al, F33_size_al⟩ (Ne.symm ne_al_b33)) hZ (hw _ (List.mem_of_getElem? (i := 98) rfl)) (hw _ (List.mem_of_getElem? (i := 94) rfl)) (by decide) (by decide)) (g := (mkF m 5 #[.val (.ref al)] [(.ref al), (.ref b33), (.ref b33)])) rfl (by rw [hml]; rfl) (Steps.refl _) (a := b33) (argsL := [(.ref al)]) (rest := [(.ref b33)]) (lenOf own_pd1 rfl) rfl (by show 2 * 0 + _ ≤ _; exact Nat.le_of_eq rfl) (hb hby own_d12_5) (fun _ _ => ⟨rfl, e33, (by decide : 1 + 0 ≤ _), (by decide : 4 + 0 ≤ _)⟩)
  dsimp only [Pt.U, Pt.locs, Pt.cells, Pt.slots] at X34 l34 y34 z34 st34 hQ34
  subst l34 y34 z34
  obtain ⟨rfl, N34q, Kp34, Bp34⟩ := hQ34
  have N34 := Fr.app N0 N34q
  refine own_by (fun t k => st34.trans k) ?_
  have F34_modCount_al := F33_modCount_al.keep Kp34 (ninS ne_al_b33 nin0)
  have F34_size_al := F33_size_al.keep Kp34 (ninS ne_al_b33 nin0)
  have Ex34_al := Ex33_al.keep Kp34
  have Ex34_b33 := A33.keep Kp34
  have K34 := K33.trans Kp34 (allS (Or.inr sz_b33) (all0))
  have Z34 := Nat.le_trans Z33 Kp34.1
  show own_Go p.tables e below K (T34.setTop (mkF m 8 #[.val (.ref al)] [(.ref b33)]))
  exact own_retA X34 hx hret rfl rfl rfl (hb hby own_d12_8) (hK (some (.ref b33)) X34 (fun h => by rw [hret] at h; cases h) (⟨_, rfl, N34, K34, Bp34⟩) (by decide) (by decide))
theorem own_pn15 : plainName "com/example/predicate/predicate/engine/FoldedTransactions$Pivot" = true := by first | (simp [plainName, overriddenIn]; done) | decide +kernel
theorem own_d15_0 : decode prog_52_method_1_code 0 = .ok (.aload_n 0, 1) := by decide +kernel
theorem own_d15_1 : decode prog_52_method_1_code 1 = .ok (.invokespecial 1, 3) := by decide +kernel
theorem own_d15_4 : decode prog_52_method_1_code 4 = .ok (.aload_n 0, 1) := by decide +kernel
theorem own_d15_5 : decode prog_52_method_1_code 5 = .ok (.aload_n 1, 1) := by decide +kernel
theorem own_d15_6 : decode prog_52_method_1_code 6 = .ok (.putfield 7, 3) := by decide +kernel
theorem own_d15_9 : decode prog_52_method_1_code 9 = .ok (.aload_n 0, 1) := by decide +kernel
theorem own_d15_10 : decode prog_52_method_1_code 10 = .ok (.lload_n 2, 1) := by decide +kernel
theorem own_d15_11 : decode prog_52_method_1_code 11 = .ok (.putfield 13, 3) := by decide +kernel
theorem own_d15_14 : decode prog_52_method_1_code 14 = .ok (.return_, 1) := by decide +kernel
theorem own_efpvn (m : MethodId) (a1 : Addr) (r1 : Addr) (j1 : Int64) : entryFrame m #[(.ref a1), (.ref r1), (.long j1)] 4 = mkF m 0 #[.val (.ref a1), .val (.ref r1), .val (.long j1), .second] [] := by first | (simp [entryFrame, mkF, argsToLocals, Value.category]; done) | rfl
def own_Qpvn (Z : State) (a1 : Addr) (r1 : Addr) (j1 : Int64) (h0 : Heap) (n0 : Nat) (v : Option Value) (h : Heap) (L : List Loc) : Prop := v = none ∧ Fr n0 L ∧ Keep h0 h [a1] ∧ Exa Z h a1 "com/example/predicate/predicate/engine/FoldedTransactions$Pivot"
set_option maxRecDepth 65536 in
set_option maxHeartbeats 40000000 in
theorem own_rmpvn (l : Launch) (Z : State) (aw : Array Value) (hw : ∀ d ∈ tables_1, d.before aw Z = true) (ws : List Jvm.Cond) (a1 : Addr) (r1 : Addr) (j1 : Int64) (h0 : Heap) (n0 : Nat) (Z0 : n0 ≤ h0.size) (E0 : Exa Z h0 a1 "com/example/predicate/predicate/engine/FoldedTransactions$Pivot") (ga : n0 ≤ a1) (F0_writes : Fld Z h0 a1 "com/example/predicate/predicate/engine/FoldedTransactions$Pivot" "writes" "Ljava/util/List;" .null) (F0_pivotOut : Fld Z h0 a1 "com/example/predicate/predicate/engine/FoldedTransactions$Pivot" "pivotOut" "J" (.long (0 : Int64)))  :
    MetFree l (⟨"com/example/predicate/predicate/engine/FoldedTransactions$Pivot", "<init>", "(Ljava/util/List;J)V"⟩ : MethodName) (head1 (Jvm.Cond.code (⟨"com/example/predicate/predicate/engine/FoldedTransactions$Pivot", "<init>", "(Ljava/util/List;J)V"⟩ : MethodName) prog_52_method_1_code 4 none :: ws) ({ frames := 2, cells := 0, slots := 0, locals := 24 } : Room)) (fun a U => a = #[(.ref a1), (.ref r1), (.long j1)] ∧ Z.Warmed39 U.vm ∧ U.heap = h0) (fun _ _ _ _ _ => True) (fun _ U o U' => ∃ v L, o = .returned v ∧ own_Qpvn Z a1 r1 j1 h0 n0 v U'.heap L ∧ FrameEnd U o U' L ({ frames := 2, cells := 0, slots := 0, locals := 24 } : Room).cells ({ frames := 2, cells := 0, slots := 0, locals := 24 } : Room).slots) := by
  refine own_met (Q := own_Qpvn Z a1 r1 j1 h0 n0) (plainFor_of_name own_pn15) ?_
  intro p e s m below meth c s₁ K hx hby hml hown hnm hret hZ X0 e0 hK
  have hown : s.vm.findClass "com/example/predicate/predicate/engine/FoldedTransactions$Pivot" = some m.cls := hown
  have hnm : meth.name = "<init>" := hnm
  have N0 := Fr.nil n0
  refine own_by (fun t k => castTop (own_efpvn m a1 r1 j1) k) ?_
  show own_Go p.tables e below K (s₁.setTop (mkF m 0 #[.val (.ref a1), .val (.ref r1), .val (.long j1), .second] []))
  refine own_by (fun t k => XS.aloadN X0.here hx rfl (hb hby own_d15_0) rfl rfl k) ?_
  show own_Go p.tables e below K (s₁.setTop (mkF m 1 #[.val (.ref a1), .val (.ref r1), .val (.long j1), .second] [(.ref a1)]))
  obtain ⟨_, _, ⟨T35, L35, k35, n35⟩, -, X35, ⟨Lc35, hQ35, l35, y35, z35⟩, st35⟩ := X0.specialBack hx (y := (⟨"java/lang/Record", "<init>", "()V"⟩ : MethodName)) rfl hown (mvT hZ (hw _ (List.mem_of_getElem? (i := 129) rfl))) (mvT hZ (hw _ (List.mem_of_getElem? (i := 130) rfl))) (mvT hZ (hw _ (List.mem_of_getElem? (i := 133) rfl))) (by decide) (backOf (W := 0) (own_rmrci l Z aw hw [] a1 h0 n0 Z0) hZ (hw _ (List.mem_of_getElem? (i := 133) rfl)) (hw _ (List.mem_of_getElem? (i := 132) rfl)) (by decide) (by decide)) (g := (mkF m 1 #[.val (.ref a1), .val (.ref r1), .val (.long j1), .second] [(.ref a1)])) rfl (by rw [hml]; rfl) (Steps.refl _) (a := a1) (argsL := []) (rest := []) (lenOf own_pd0 rfl) rfl (by show 2 * 0 + _ ≤ _; exact Nat.le_of_eq rfl) (hb hby own_d15_1) (fun _ _ => ⟨rfl, e0, (by decide : 0 + 0 ≤ _), (by decide : 0 + 0 ≤ _)⟩)
  dsimp only [Pt.U, Pt.locs, Pt.cells, Pt.slots] at X35 l35 y35 z35 st35 hQ35
  subst l35 y35 z35
  obtain ⟨rfl, N35q, e35⟩ := hQ35
  have N35 := Fr.app N0 N35q
  refine own_by (fun t k => st35.trans k) ?_
  show own_Go p.tables e below K (T35.setTop (mkF m 4 #[.val (.ref a1), .val (.ref r1), .val (.long j1), .second] []))
  refine own_by (fun t k => XS.aloadN X35.here hx rfl (hb hby own_d15_4) rfl rfl k) ?_
  show own_Go p.tables e below K (T35.setTop (mkF m 5 #[.val (.ref a1), .val (.ref r1), .val (.long j1), .second] [(.ref a1)]))
  refine own_by (fun t k => XS.aloadN X35.here hx rfl (hb hby own_d15_5) rfl rfl k) ?_
  show own_Go p.tables e below K (T35.setTop (mkF m 6 #[.val (.ref a1), .val (.ref r1), .val (.long j1), .second] [(.ref r1), (.ref a1)]))
  obtain ⟨T36, h36, X36, e36, W36, st36⟩ := putF X35 hx hZ hown (host := "") (Or.inl (hw _ (List.mem_of_getElem? (i := 135) rfl))) Via.refl e35 F0_writes E0 (Or.inr ⟨(hw _ (List.mem_of_getElem? (i := 136) rfl)), rfl, hnm⟩) (hw _ (List.mem_of_getElem? (i := 124) rfl)) (ty := (.object "java/util/List")) (by decide) rfl rfl (g := (mkF m 6 #[.val (.ref a1), .val (.ref r1), .val (.long j1), .second] [(.ref r1), (.ref a1)])) rfl rfl (hb hby own_d15_6)
  refine own_by st36 ?_
  have F36_writes_a1 := F0_writes.same W36
  have F36_pivotOut_a1 := F0_pivotOut.other W36 (Or.inr (slot_ne (Or.inr (hw _ (List.mem_of_getElem? (i := 138) rfl))) (Or.inr (hw _ (List.mem_of_getElem? (i := 136) rfl))) (by decide) (t := .long) (t' := (.object "java/util/List")) (by decide) (by decide)))
  have Ex36_a1 := E0.wr W36
  have K36 := (Keep.refl h0 [a1]).wr W36 (Or.inl (by simp))
  have Z36 := Nat.le_trans Z0 (Keep.of_wr W36).1
  have N36 := Fr.snoc X36 N35 ga
  show own_Go p.tables e below K (T36.setTop (mkF m 9 #[.val (.ref a1), .val (.ref r1), .val (.long j1), .second] []))
  refine own_by (fun t k => XS.aloadN X36.here hx rfl (hb hby own_d15_9) rfl rfl k) ?_
  show own_Go p.tables e below K (T36.setTop (mkF m 10 #[.val (.ref a1), .val (.ref r1), .val (.long j1), .second] [(.ref a1)]))
  refine own_by (fun t k => XS.lloadN X36.here hx rfl (hb hby own_d15_10) rfl k) ?_
  show own_Go p.tables e below K (T36.setTop (mkF m 11 #[.val (.ref a1), .val (.ref r1), .val (.long j1), .second] [(.long j1), (.ref a1)]))
  obtain ⟨T37, h37, X37, e37, W37, st37⟩ := putF X36 hx hZ hown (host := "") (Or.inl (hw _ (List.mem_of_getElem? (i := 137) rfl))) Via.refl e36 F36_pivotOut_a1 Ex36_a1 (Or.inr ⟨(hw _ (List.mem_of_getElem? (i := 138) rfl)), rfl, hnm⟩) (hw _ (List.mem_of_getElem? (i := 124) rfl)) (ty := .long) (by decide) rfl rfl (g := (mkF m 11 #[.val (.ref a1), .val (.ref r1), .val (.long j1), .second] [(.long j1), (.ref a1)])) rfl rfl (hb hby own_d15_11)
  refine own_by st37 ?_
  have F37_writes_a1 := F36_writes_a1.other W37 (Or.inr (slot_ne (Or.inr (hw _ (List.mem_of_getElem? (i := 136) rfl))) (Or.inr (hw _ (List.mem_of_getElem? (i := 138) rfl))) (by decide) (t := (.object "java/util/List")) (t' := .long) (by decide) (by decide)))
  have F37_pivotOut_a1 := F36_pivotOut_a1.same W37
  have Ex37_a1 := Ex36_a1.wr W37
  have K37 := K36.wr W37 (Or.inl (by simp))
  have Z37 := Nat.le_trans Z36 (Keep.of_wr W37).1
  have N37 := Fr.snoc X37 N36 ga
  show own_Go p.tables e below K (T37.setTop (mkF m 14 #[.val (.ref a1), .val (.ref r1), .val (.long j1), .second] []))
  exact own_retV X37 hx hret (hb hby own_d15_14) (hK none X37 (fun _ => rfl) (by rw [e37]; exact ⟨rfl, N37, K37, Ex37_a1⟩) (by decide) (by decide))
theorem own_pd2 : parseMethodDescriptor "(II)I" = some ⟨[.int, .int], some .int⟩ := by decide +kernel
theorem own_d18_0 : decode jdk_21_method_13_code 0 = .ok (.aload_n 1, 1) := by decide +kernel
theorem own_d18_1 : decode jdk_21_method_13_code 1 = .ok (.ifnonnull 11, 3) := by decide +kernel
theorem own_d18_12 : decode jdk_21_method_13_code 12 = .ok (.aload_n 0, 1) := by decide +kernel
theorem own_d18_13 : decode jdk_21_method_13_code 13 = .ok (.getfield 3, 3) := by decide +kernel
theorem own_d18_16 : decode jdk_21_method_13_code 16 = .ok (.astore_n 2, 1) := by decide +kernel
theorem own_d18_17 : decode jdk_21_method_13_code 17 = .ok (.aload_n 2, 1) := by decide +kernel
theorem own_d18_18 : decode jdk_21_method_13_code 18 = .ok (.aload_n 0, 1) := by decide +kernel
theorem own_d18_19 : decode jdk_21_method_13_code 19 = .ok (.getfield 20, 3) := by decide +kernel
theorem own_d18_22 : decode jdk_21_method_13_code 22 = .ok (.aload_n 1, 1) := by decide +kernel
theorem own_d18_23 : decode jdk_21_method_13_code 23 = .ok (.aastore, 1) := by decide +kernel
theorem own_d18_24 : decode jdk_21_method_13_code 24 = .ok (.aload_n 0, 1) := by decide +kernel
theorem own_d18_25 : decode jdk_21_method_13_code 25 = .ok (.getfield 24, 3) := by decide +kernel
theorem own_d18_28 : decode jdk_21_method_13_code 28 = .ok (.aload_n 0, 1) := by decide +kernel
theorem own_d18_29 : decode jdk_21_method_13_code 29 = .ok (.aload_n 0, 1) := by decide +kernel
theorem own_d18_30 : decode jdk_21_method_13_code 30 = .ok (.getfield 20, 3) := by decide +kernel
theorem own_d18_33 : decode jdk_21_method_13_code 33 = .ok (.aload_n 2, 1) := by decide +kernel
theorem own_d18_34 : decode jdk_21_method_13_code 34 = .ok (.arraylength, 1) := by decide +kernel
theorem own_d18_35 : decode jdk_21_method_13_code 35 = .ok (.invokestatic 74, 3) := by decide +kernel
theorem own_d18_38 : decode jdk_21_method_13_code 38 = .ok (.dup_x1, 1) := by decide +kernel
theorem own_d18_39 : decode jdk_21_method_13_code 39 = .ok (.putfield 20, 3) := by decide +kernel
theorem own_d18_42 : decode jdk_21_method_13_code 42 = .ok (.if_icmp .ne 8, 3) := by decide +kernel
theorem own_d18_50 : decode jdk_21_method_13_code 50 = .ok (.return_, 1) := by decide +kernel
theorem own_efadl0 (m : MethodId) (a1 : Addr) (x1 : Addr) : entryFrame m #[(.ref a1), (.ref x1)] 3 = mkF m 0 #[.val (.ref a1), .val (.ref x1), .unset] [] := by first | (simp [entryFrame, mkF, argsToLocals, Value.category]; done) | rfl
def own_Qadl0 (Z : State) (a1 : Addr) (x1 : Addr) (el : Addr) (k : ClassId) (h0 : Heap) (n0 : Nat) (v : Option Value) (h : Heap) (L : List Loc) : Prop := v = none ∧ Fr n0 L ∧ Keep h0 h [a1, el] ∧ own_DQ Z h a1 el k (1 : Int32)
set_option maxRecDepth 65536 in
set_option maxHeartbeats 40000000 in
theorem own_rmadl0 (l : Launch) (Z : State) (aw : Array Value) (hw : ∀ d ∈ tables_1, d.before aw Z = true) (ws : List Jvm.Cond) (a1 : Addr) (x1 : Addr) (el : Addr) (k : ClassId) (h0 : Heap) (n0 : Nat) (Z0 : n0 ≤ h0.size) (B0 : own_DQ Z h0 a1 el k (0 : Int32)) (hI : Ins Z h0 x1 "java/lang/Object" true) (ga : n0 ≤ a1) (ge : n0 ≤ el) :
    MetFree l (⟨"java/util/ArrayDeque", "addLast", "(Ljava/lang/Object;)V"⟩ : MethodName) (head1 (Jvm.Cond.code (⟨"java/util/ArrayDeque", "addLast", "(Ljava/lang/Object;)V"⟩ : MethodName) jdk_21_method_13_code 3 none :: ws) ({ frames := 1, cells := 0, slots := 0, locals := 30 } : Room)) (fun a U => a = #[(.ref a1), (.ref x1)] ∧ Z.Warmed39 U.vm ∧ U.heap = h0) (fun _ _ _ _ _ => True) (fun _ U o U' => ∃ v L, o = .returned v ∧ own_Qadl0 Z a1 x1 el k h0 n0 v U'.heap L ∧ FrameEnd U o U' L ({ frames := 1, cells := 0, slots := 0, locals := 30 } : Room).cells ({ frames := 1, cells := 0, slots := 0, locals := 30 } : Room).slots) := by
  refine own_met (Q := own_Qadl0 Z a1 x1 el k h0 n0) (plainFor_of_name own_pn9) ?_
  intro p e s m below meth c s₁ K hx hby hml hown hnm hret hZ X0 e0 hK
  have hown : s.vm.findClass "java/util/ArrayDeque" = some m.cls := hown
  have N0 := Fr.nil n0
  refine own_by (fun t k => castTop (own_efadl0 m a1 x1) k) ?_
  show own_Go p.tables e below K (s₁.setTop (mkF m 0 #[.val (.ref a1), .val (.ref x1), .unset] []))
  refine own_by (fun t k => XS.aloadN X0.here hx rfl (hb hby own_d18_0) rfl rfl k) ?_
  show own_Go p.tables e below K (s₁.setTop (mkF m 1 #[.val (.ref a1), .val (.ref x1), .unset] [(.ref x1)]))
  refine own_by (fun t k => XS.ifnonnullYes X0.here hx rfl (pc0 := 1) (pc' := 12) rfl (hb hby own_d18_1) rfl (by decide) (by decide) k) ?_
  show own_Go p.tables e below K (s₁.setTop (mkF m 12 #[.val (.ref a1), .val (.ref x1), .unset] []))
  refine own_by (fun t k => XS.aloadN X0.here hx rfl (hb hby own_d18_12) rfl rfl k) ?_
  show own_Go p.tables e below K (s₁.setTop (mkF m 13 #[.val (.ref a1), .val (.ref x1), .unset] [(.ref a1)]))
  obtain ⟨T38, X38, e38, st38⟩ := getF X0 hx hZ hown (host := "") (Or.inl (hw _ (List.mem_of_getElem? (i := 67) rfl))) Via.refl e0 B0.2.1 (g := (mkF m 13 #[.val (.ref a1), .val (.ref x1), .unset] [(.ref a1)])) rfl rfl (hb hby own_d18_13)
  refine own_by st38 ?_
  show own_Go p.tables e below K (T38.setTop (mkF m 16 #[.val (.ref a1), .val (.ref x1), .unset] [(.ref el)]))
  refine own_by (fun t k => XS.astoreN X38.here hx rfl (hb hby own_d18_16) rfl rfl (l' := #[.val (.ref a1), .val (.ref x1), .val (.ref el)]) rfl k) ?_
  show own_Go p.tables e below K (T38.setTop (mkF m 17 #[.val (.ref a1), .val (.ref x1), .val (.ref el)] []))
  refine own_by (fun t k => XS.aloadN X38.here hx rfl (hb hby own_d18_17) rfl rfl k) ?_
  show own_Go p.tables e below K (T38.setTop (mkF m 18 #[.val (.ref a1), .val (.ref x1), .val (.ref el)] [(.ref el)]))
  refine own_by (fun t k => XS.aloadN X38.here hx rfl (hb hby own_d18_18) rfl rfl k) ?_
  show own_Go p.tables e below K (T38.setTop (mkF m 19 #[.val (.ref a1), .val (.ref x1), .val (.ref el)] [(.ref a1), (.ref el)]))
  obtain ⟨T39, X39, e39, st39⟩ := getF X38 hx hZ hown (host := "") (Or.inl (hw _ (List.mem_of_getElem? (i := 153) rfl))) Via.refl e38 B0.2.2.2.1 (g := (mkF m 19 #[.val (.ref a1), .val (.ref x1), .val (.ref el)] [(.ref a1), (.ref el)])) rfl rfl (hb hby own_d18_19)
  refine own_by st39 ?_
  show own_Go p.tables e below K (T39.setTop (mkF m 22 #[.val (.ref a1), .val (.ref x1), .val (.ref el)] [(.int (0 : Int32)), (.ref el)]))
  refine own_by (fun t k => XS.aloadN X39.here hx rfl (hb hby own_d18_22) rfl rfl k) ?_
  show own_Go p.tables e below K (T39.setTop (mkF m 23 #[.val (.ref a1), .val (.ref x1), .val (.ref el)] [(.ref x1), (.int (0 : Int32)), (.ref el)]))
  obtain ⟨cl40, Ar40, sz40, kc40⟩ := id B0.2.2.2.2.1
  obtain ⟨T40, h40, X40, e40, W40, st40⟩ := stR X39 hx hZ e39 Ar40 (j := (0 : Int32)) (by rw [sz40]; decide) rfl (Sto.ofV Ar40 kc40 B0.2.2.2.2.2 hI) (g := (mkF m 23 #[.val (.ref a1), .val (.ref x1), .val (.ref el)] [(.ref x1), (.int (0 : Int32)), (.ref el)])) rfl rfl (hb hby own_d18_23)
  refine own_by st40 ?_
  have F40_elements_a1 := B0.2.1.other W40 (Or.inl (own_Ar.ne B0.1 B0.2.2.2.2.1 (hw _ (List.mem_of_getElem? (i := 58) rfl))))
  have F40_head_a1 := B0.2.2.1.other W40 (Or.inl (own_Ar.ne B0.1 B0.2.2.2.2.1 (hw _ (List.mem_of_getElem? (i := 58) rfl))))
  have F40_tail_a1 := B0.2.2.2.1.other W40 (Or.inl (own_Ar.ne B0.1 B0.2.2.2.2.1 (hw _ (List.mem_of_getElem? (i := 58) rfl))))
  have Ex40_a1 := B0.1.wr W40
  have xa40 := B0.2.2.2.2.1.same W40
  have K40 := (Keep.refl h0 [a1, el]).wr W40 (Or.inl (by simp))
  have Z40 := Nat.le_trans Z0 (Keep.of_wr W40).1
  have N40 := Fr.snoc X40 N0 ge
  show own_Go p.tables e below K (T40.setTop (mkF m 24 #[.val (.ref a1), .val (.ref x1), .val (.ref el)] []))
  refine own_by (fun t k => XS.aloadN X40.here hx rfl (hb hby own_d18_24) rfl rfl k) ?_
  show own_Go p.tables e below K (T40.setTop (mkF m 25 #[.val (.ref a1), .val (.ref x1), .val (.ref el)] [(.ref a1)]))
  obtain ⟨T41, X41, e41, st41⟩ := getF X40 hx hZ hown (host := "") (Or.inl (hw _ (List.mem_of_getElem? (i := 156) rfl))) Via.refl e40 F40_head_a1 (g := (mkF m 25 #[.val (.ref a1), .val (.ref x1), .val (.ref el)] [(.ref a1)])) rfl rfl (hb hby own_d18_25)
  refine own_by st41 ?_
  show own_Go p.tables e below K (T41.setTop (mkF m 28 #[.val (.ref a1), .val (.ref x1), .val (.ref el)] [(.int (0 : Int32))]))
  refine own_by (fun t k => XS.aloadN X41.here hx rfl (hb hby own_d18_28) rfl rfl k) ?_
  show own_Go p.tables e below K (T41.setTop (mkF m 29 #[.val (.ref a1), .val (.ref x1), .val (.ref el)] [(.ref a1), (.int (0 : Int32))]))
  refine own_by (fun t k => XS.aloadN X41.here hx rfl (hb hby own_d18_29) rfl rfl k) ?_
  show own_Go p.tables e below K (T41.setTop (mkF m 30 #[.val (.ref a1), .val (.ref x1), .val (.ref el)] [(.ref a1), (.ref a1), (.int (0 : Int32))]))
  obtain ⟨T42, X42, e42, st42⟩ := getF X41 hx hZ hown (host := "") (Or.inl (hw _ (List.mem_of_getElem? (i := 153) rfl))) Via.refl e41 F40_tail_a1 (g := (mkF m 30 #[.val (.ref a1), .val (.ref x1), .val (.ref el)] [(.ref a1), (.ref a1), (.int (0 : Int32))])) rfl rfl (hb hby own_d18_30)
  refine own_by st42 ?_
  show own_Go p.tables e below K (T42.setTop (mkF m 33 #[.val (.ref a1), .val (.ref x1), .val (.ref el)] [(.int (0 : Int32)), (.ref a1), (.int (0 : Int32))]))
  refine own_by (fun t k => XS.aloadN X42.here hx rfl (hb hby own_d18_33) rfl rfl k) ?_
  show own_Go p.tables e below K (T42.setTop (mkF m 34 #[.val (.ref a1), .val (.ref x1), .val (.ref el)] [(.ref el), (.int (0 : Int32)), (.ref a1), (.int (0 : Int32))]))
  obtain ⟨cl43, Ar43, sz43, kc43⟩ := id xa40
  refine own_by (fun t k => X42.arraylength hx (by rw [e42]; exact Ar43.1) (State.isArrayOf_alike hZ.alike Ar43.2.1) (g := (mkF m 34 #[.val (.ref a1), .val (.ref x1), .val (.ref el)] [(.ref el), (.int (0 : Int32)), (.ref a1), (.int (0 : Int32))])) rfl rfl (hb hby own_d18_34) t k) ?_
  rw [sz43]
  show own_Go p.tables e below K (T42.setTop (mkF m 35 #[.val (.ref a1), .val (.ref x1), .val (.ref el)] [(.int (17 : Int32)), (.int (0 : Int32)), (.ref a1), (.int (0 : Int32))]))
  obtain ⟨_, _, ⟨T44, L44, k44, n44⟩, -, X44, ⟨Lc44, hQ44, l44, y44, z44⟩, st44⟩ := Jvm.LawKit.callS X42 hx (y := (⟨"java/util/ArrayDeque", "inc", "(II)I"⟩ : MethodName)) hown (mvT hZ (hw _ (List.mem_of_getElem? (i := 158) rfl))) (mvT hZ (hw _ (List.mem_of_getElem? (i := 159) rfl))) (mvT hZ (hw _ (List.mem_of_getElem? (i := 59) rfl))) (mvT hZ (hw _ (List.mem_of_getElem? (i := 160) rfl))) (by decide) (backOf (W := 2) (own_rminc l Z aw hw [] (0 : Int32) 17 h40 n0 Z40) hZ (hw _ (List.mem_of_getElem? (i := 160) rfl)) (hw _ (List.mem_of_getElem? (i := 59) rfl)) (by decide) (by decide)) (g := (mkF m 35 #[.val (.ref a1), .val (.ref x1), .val (.ref el)] [(.int (17 : Int32)), (.int (0 : Int32)), (.ref a1), (.int (0 : Int32))])) rfl (by rw [hml]; rfl) (argsL := [(.int (0 : Int32)), (.int (17 : Int32))]) (rest := [(.ref a1), (.int (0 : Int32))]) (lenOf own_pd2 rfl) rfl (by show 2 * 0 + _ ≤ _; exact Nat.le_of_eq rfl) (hb hby own_d18_35) (fun _ _ => ⟨rfl, e42, (by decide : 0 + 0 ≤ _), (by decide : 0 + 0 ≤ _)⟩)
  dsimp only [Pt.U, Pt.locs, Pt.cells, Pt.slots] at X44 l44 y44 z44 st44 hQ44
  subst l44 y44 z44
  obtain ⟨rfl, N44q, e44⟩ := hQ44
  have N44 := Fr.app N40 N44q
  refine own_by st44 ?_
  show own_Go p.tables e below K (T44.setTop (mkF m 38 #[.val (.ref a1), .val (.ref x1), .val (.ref el)] [(.int (1 : Int32)), (.ref a1), (.int (0 : Int32))]))
  refine own_by (fun t k => XS.dupX1 X44.here hx rfl (hb hby own_d18_38) rfl rfl rfl k) ?_
  show own_Go p.tables e below K (T44.setTop (mkF m 39 #[.val (.ref a1), .val (.ref x1), .val (.ref el)] [(.int (1 : Int32)), (.ref a1), (.int (1 : Int32)), (.int (0 : Int32))]))
  obtain ⟨T45, h45, X45, e45, W45, st45⟩ := putF X44 hx hZ hown (host := "") (Or.inl (hw _ (List.mem_of_getElem? (i := 153) rfl))) Via.refl e44 F40_tail_a1 Ex40_a1 (Or.inl (hw _ (List.mem_of_getElem? (i := 154) rfl))) (hw _ (List.mem_of_getElem? (i := 58) rfl)) (ty := .int) (by decide) rfl rfl (g := (mkF m 39 #[.val (.ref a1), .val (.ref x1), .val (.ref el)] [(.int (1 : Int32)), (.ref a1), (.int (1 : Int32)), (.int (0 : Int32))])) rfl rfl (hb hby own_d18_39)
  refine own_by st45 ?_
  have F45_elements_a1 := F40_elements_a1.other W45 (Or.inr (slot_ne (Or.inl (hw _ (List.mem_of_getElem? (i := 68) rfl))) (Or.inl (hw _ (List.mem_of_getElem? (i := 154) rfl))) (by decide) (t := (.array (.object "java/lang/Object"))) (t' := .int) (by decide) (by decide)))
  have F45_head_a1 := F40_head_a1.other W45 (Or.inr (slot_ne (Or.inl (hw _ (List.mem_of_getElem? (i := 157) rfl))) (Or.inl (hw _ (List.mem_of_getElem? (i := 154) rfl))) (by decide) (t := .int) (t' := .int) (by decide) (by decide)))
  have F45_tail_a1 := F40_tail_a1.same W45
  have xa45_el := xa40.other W45 (Ne.symm (own_Ar.ne Ex40_a1 xa40 (hw _ (List.mem_of_getElem? (i := 58) rfl))))
  have Ex45_a1 := Ex40_a1.wr W45
  have K45 := K40.wr W45 (Or.inl (by simp))
  have Z45 := Nat.le_trans Z40 (Keep.of_wr W45).1
  have N45 := Fr.snoc X45 N44 ga
  show own_Go p.tables e below K (T45.setTop (mkF m 42 #[.val (.ref a1), .val (.ref x1), .val (.ref el)] [(.int (1 : Int32)), (.int (0 : Int32))]))
  have hc42 : ¬ ((0 : Int32) = (1 : Int32)) := by decide
  refine own_by (fun t k => XS.icmpYes X45.here hx rfl (pc0 := 42) (pc' := 50) rfl (hb hby own_d18_42) rfl (feq hc42).2 (by decide) (by decide) k) ?_
  show own_Go p.tables e below K (T45.setTop (mkF m 50 #[.val (.ref a1), .val (.ref x1), .val (.ref el)] []))
  exact own_retV X45 hx hret (hb hby own_d18_50) (hK none X45 (fun _ => rfl) (by rw [e45]; exact ⟨rfl, N45, K45, ⟨Ex45_a1, F45_elements_a1, F45_head_a1, F45_tail_a1, xa45_el, B0.2.2.2.2.2⟩⟩) (by decide) (by decide))
theorem own_pd3 : parseMethodDescriptor "(Ljava/lang/Object;)V" = some ⟨[(.object "java/lang/Object")], none⟩ := by decide +kernel
theorem own_d17_0 : decode jdk_21_method_28_code 0 = .ok (.aload_n 0, 1) := by decide +kernel
theorem own_d17_1 : decode jdk_21_method_28_code 1 = .ok (.aload_n 1, 1) := by decide +kernel
theorem own_d17_2 : decode jdk_21_method_28_code 2 = .ok (.invokevirtual 90, 3) := by decide +kernel
theorem own_d17_5 : decode jdk_21_method_28_code 5 = .ok (.iconst 1, 1) := by decide +kernel
theorem own_d17_6 : decode jdk_21_method_28_code 6 = .ok (.ireturn, 1) := by decide +kernel
theorem own_efadd0 (m : MethodId) (a1 : Addr) (x1 : Addr) : entryFrame m #[(.ref a1), (.ref x1)] 2 = mkF m 0 #[.val (.ref a1), .val (.ref x1)] [] := by first | (simp [entryFrame, mkF, argsToLocals, Value.category]; done) | rfl
def own_Qadd0 (Z : State) (a1 : Addr) (x1 : Addr) (el : Addr) (k : ClassId) (h0 : Heap) (n0 : Nat) (v : Option Value) (h : Heap) (L : List Loc) : Prop := v = some (.int (1 : Int32)) ∧ Fr n0 L ∧ Keep h0 h [a1, el] ∧ own_DQ Z h a1 el k (1 : Int32)
set_option maxRecDepth 65536 in
set_option maxHeartbeats 40000000 in
theorem own_rmadd0 (l : Launch) (Z : State) (aw : Array Value) (hw : ∀ d ∈ tables_1, d.before aw Z = true) (ws : List Jvm.Cond) (a1 : Addr) (x1 : Addr) (el : Addr) (k : ClassId) (h0 : Heap) (n0 : Nat) (Z0 : n0 ≤ h0.size) (B0 : own_DQ Z h0 a1 el k (0 : Int32)) (hI : Ins Z h0 x1 "java/lang/Object" true) (ga : n0 ≤ a1) (ge : n0 ≤ el) :
    MetFree l (⟨"java/util/ArrayDeque", "add", "(Ljava/lang/Object;)Z"⟩ : MethodName) (head1 (Jvm.Cond.code (⟨"java/util/ArrayDeque", "add", "(Ljava/lang/Object;)Z"⟩ : MethodName) jdk_21_method_28_code 2 (some .boolean) :: ws) ({ frames := 2, cells := 0, slots := 0, locals := 45 } : Room)) (fun a U => a = #[(.ref a1), (.ref x1)] ∧ Z.Warmed39 U.vm ∧ U.heap = h0) (fun _ _ _ _ _ => True) (fun _ U o U' => ∃ v L, o = .returned v ∧ own_Qadd0 Z a1 x1 el k h0 n0 v U'.heap L ∧ FrameEnd U o U' L ({ frames := 2, cells := 0, slots := 0, locals := 45 } : Room).cells ({ frames := 2, cells := 0, slots := 0, locals := 45 } : Room).slots) := by
  refine own_met (Q := own_Qadd0 Z a1 x1 el k h0 n0) (plainFor_of_name own_pn9) ?_
  intro p e s m below meth c s₁ K hx hby hml hown hnm hret hZ X0 e0 hK
  have hown : s.vm.findClass "java/util/ArrayDeque" = some m.cls := hown
  have N0 := Fr.nil n0
  refine own_by (fun t k => castTop (own_efadd0 m a1 x1) k) ?_
  show own_Go p.tables e below K (s₁.setTop (mkF m 0 #[.val (.ref a1), .val (.ref x1)] []))
  refine own_by (fun t k => XS.aloadN X0.here hx rfl (hb hby own_d17_0) rfl rfl k) ?_
  show own_Go p.tables e below K (s₁.setTop (mkF m 1 #[.val (.ref a1), .val (.ref x1)] [(.ref a1)]))
  refine own_by (fun t k => XS.aloadN X0.here hx rfl (hb hby own_d17_1) rfl rfl k) ?_
  show own_Go p.tables e below K (s₁.setTop (mkF m 2 #[.val (.ref a1), .val (.ref x1)] [(.ref x1), (.ref a1)]))
  obtain ⟨cq46, kq46, q46a, q46b, q46c⟩ := isOf hZ e0 B0.1
  obtain ⟨_, _, ⟨T46, L46, k46, n46⟩, -, X46, ⟨Lc46, hQ46, l46, y46, z46⟩, st46⟩ := X0.virtualBack hx (y := (⟨"java/util/ArrayDeque", "addLast", "(Ljava/lang/Object;)V"⟩ : MethodName)) (z := (⟨"java/util/ArrayDeque", "addLast", "(Ljava/lang/Object;)V"⟩ : MethodName)) hown (mvT hZ (hw _ (List.mem_of_getElem? (i := 148) rfl))) (mvT hZ (hw _ (List.mem_of_getElem? (i := 149) rfl))) (notFace_of_selects (args := #[]) (mvT hZ (hw _ (List.mem_of_getElem? (i := 151) rfl)))) (mvT hZ (hw _ (List.mem_of_getElem? (i := 151) rfl))) (mvT hZ (hw _ (List.mem_of_getElem? (i := 150) rfl))) (by decide) (backOf (W := 0) (own_rmadl0 l Z aw hw [] a1 x1 el k h0 n0 Z0 B0 hI ga ge) hZ (hw _ (List.mem_of_getElem? (i := 152) rfl)) (hw _ (List.mem_of_getElem? (i := 59) rfl)) (by decide) (by decide)) q46a q46c (g := (mkF m 2 #[.val (.ref a1), .val (.ref x1)] [(.ref x1), (.ref a1)])) rfl (by rw [hml]; rfl) (Steps.refl _) (argsL := [(.ref x1)]) (rest := []) (lenOf own_pd3 rfl) rfl (by show 2 * 0 + _ ≤ _; exact Nat.le_of_eq rfl) (hb hby own_d17_2) (fun _ _ => ⟨rfl, e0, (by decide : 0 + 0 ≤ _), (by decide : 0 + 0 ≤ _)⟩)
  dsimp only [Pt.U, Pt.locs, Pt.cells, Pt.slots] at X46 l46 y46 z46 st46 hQ46
  subst l46 y46 z46
  obtain ⟨rfl, N46q, Kp46, Bp46⟩ := hQ46
  have N46 := Fr.app N0 N46q
  refine own_by (fun t k => st46.trans k) ?_
  show own_Go p.tables e below K (T46.setTop (mkF m 5 #[.val (.ref a1), .val (.ref x1)] []))
  refine own_by (fun t k => XS.iconst X46.here hx rfl (hb hby own_d17_5) k) ?_
  show own_Go p.tables e below K (T46.setTop (mkF m 6 #[.val (.ref a1), .val (.ref x1)] [(.int (1 : Int32))]))
  exact own_retZ X46 hx (t := .boolean) hret (by simp) (hb hby own_d17_6) (hK (some (.int (1 : Int32))) X46 (fun h => by rw [hret] at h; cases h) (⟨rfl, N46, Kp46, Bp46⟩) (by decide) (by decide))
theorem own_efadl1 (m : MethodId) (a1 : Addr) (x1 : Addr) : entryFrame m #[(.ref a1), (.ref x1)] 3 = mkF m 0 #[.val (.ref a1), .val (.ref x1), .unset] [] := by first | (simp [entryFrame, mkF, argsToLocals, Value.category]; done) | rfl
def own_Qadl1 (Z : State) (a1 : Addr) (x1 : Addr) (el : Addr) (k : ClassId) (h0 : Heap) (n0 : Nat) (v : Option Value) (h : Heap) (L : List Loc) : Prop := v = none ∧ Fr n0 L ∧ Keep h0 h [a1, el] ∧ own_DQ Z h a1 el k (2 : Int32)
set_option maxRecDepth 65536 in
set_option maxHeartbeats 40000000 in
theorem own_rmadl1 (l : Launch) (Z : State) (aw : Array Value) (hw : ∀ d ∈ tables_1, d.before aw Z = true) (ws : List Jvm.Cond) (a1 : Addr) (x1 : Addr) (el : Addr) (k : ClassId) (h0 : Heap) (n0 : Nat) (Z0 : n0 ≤ h0.size) (B0 : own_DQ Z h0 a1 el k (1 : Int32)) (hI : Ins Z h0 x1 "java/lang/Object" true) (ga : n0 ≤ a1) (ge : n0 ≤ el) :
    MetFree l (⟨"java/util/ArrayDeque", "addLast", "(Ljava/lang/Object;)V"⟩ : MethodName) (head1 (Jvm.Cond.code (⟨"java/util/ArrayDeque", "addLast", "(Ljava/lang/Object;)V"⟩ : MethodName) jdk_21_method_13_code 3 none :: ws) ({ frames := 1, cells := 0, slots := 0, locals := 30 } : Room)) (fun a U => a = #[(.ref a1), (.ref x1)] ∧ Z.Warmed39 U.vm ∧ U.heap = h0) (fun _ _ _ _ _ => True) (fun _ U o U' => ∃ v L, o = .returned v ∧ own_Qadl1 Z a1 x1 el k h0 n0 v U'.heap L ∧ FrameEnd U o U' L ({ frames := 1, cells := 0, slots := 0, locals := 30 } : Room).cells ({ frames := 1, cells := 0, slots := 0, locals := 30 } : Room).slots) := by
  refine own_met (Q := own_Qadl1 Z a1 x1 el k h0 n0) (plainFor_of_name own_pn9) ?_
  intro p e s m below meth c s₁ K hx hby hml hown hnm hret hZ X0 e0 hK
  have hown : s.vm.findClass "java/util/ArrayDeque" = some m.cls := hown
  have N0 := Fr.nil n0
  refine own_by (fun t k => castTop (own_efadl1 m a1 x1) k) ?_
  show own_Go p.tables e below K (s₁.setTop (mkF m 0 #[.val (.ref a1), .val (.ref x1), .unset] []))
  refine own_by (fun t k => XS.aloadN X0.here hx rfl (hb hby own_d18_0) rfl rfl k) ?_
  show own_Go p.tables e below K (s₁.setTop (mkF m 1 #[.val (.ref a1), .val (.ref x1), .unset] [(.ref x1)]))
  refine own_by (fun t k => XS.ifnonnullYes X0.here hx rfl (pc0 := 1) (pc' := 12) rfl (hb hby own_d18_1) rfl (by decide) (by decide) k) ?_
  show own_Go p.tables e below K (s₁.setTop (mkF m 12 #[.val (.ref a1), .val (.ref x1), .unset] []))
  refine own_by (fun t k => XS.aloadN X0.here hx rfl (hb hby own_d18_12) rfl rfl k) ?_
  show own_Go p.tables e below K (s₁.setTop (mkF m 13 #[.val (.ref a1), .val (.ref x1), .unset] [(.ref a1)]))
  obtain ⟨T47, X47, e47, st47⟩ := getF X0 hx hZ hown (host := "") (Or.inl (hw _ (List.mem_of_getElem? (i := 67) rfl))) Via.refl e0 B0.2.1 (g := (mkF m 13 #[.val (.ref a1), .val (.ref x1), .unset] [(.ref a1)])) rfl rfl (hb hby own_d18_13)
  refine own_by st47 ?_
  show own_Go p.tables e below K (T47.setTop (mkF m 16 #[.val (.ref a1), .val (.ref x1), .unset] [(.ref el)]))
  refine own_by (fun t k => XS.astoreN X47.here hx rfl (hb hby own_d18_16) rfl rfl (l' := #[.val (.ref a1), .val (.ref x1), .val (.ref el)]) rfl k) ?_
  show own_Go p.tables e below K (T47.setTop (mkF m 17 #[.val (.ref a1), .val (.ref x1), .val (.ref el)] []))
  refine own_by (fun t k => XS.aloadN X47.here hx rfl (hb hby own_d18_17) rfl rfl k) ?_
  show own_Go p.tables e below K (T47.setTop (mkF m 18 #[.val (.ref a1), .val (.ref x1), .val (.ref el)] [(.ref el)]))
  refine own_by (fun t k => XS.aloadN X47.here hx rfl (hb hby own_d18_18) rfl rfl k) ?_
  show own_Go p.tables e below K (T47.setTop (mkF m 19 #[.val (.ref a1), .val (.ref x1), .val (.ref el)] [(.ref a1), (.ref el)]))
  obtain ⟨T48, X48, e48, st48⟩ := getF X47 hx hZ hown (host := "") (Or.inl (hw _ (List.mem_of_getElem? (i := 153) rfl))) Via.refl e47 B0.2.2.2.1 (g := (mkF m 19 #[.val (.ref a1), .val (.ref x1), .val (.ref el)] [(.ref a1), (.ref el)])) rfl rfl (hb hby own_d18_19)
  refine own_by st48 ?_
  show own_Go p.tables e below K (T48.setTop (mkF m 22 #[.val (.ref a1), .val (.ref x1), .val (.ref el)] [(.int (1 : Int32)), (.ref el)]))
  refine own_by (fun t k => XS.aloadN X48.here hx rfl (hb hby own_d18_22) rfl rfl k) ?_
  show own_Go p.tables e below K (T48.setTop (mkF m 23 #[.val (.ref a1), .val (.ref x1), .val (.ref el)] [(.ref x1), (.int (1 : Int32)), (.ref el)]))
  obtain ⟨cl49, Ar49, sz49, kc49⟩ := id B0.2.2.2.2.1
  obtain ⟨T49, h49, X49, e49, W49, st49⟩ := stR X48 hx hZ e48 Ar49 (j := (1 : Int32)) (by rw [sz49]; decide) rfl (Sto.ofV Ar49 kc49 B0.2.2.2.2.2 hI) (g := (mkF m 23 #[.val (.ref a1), .val (.ref x1), .val (.ref el)] [(.ref x1), (.int (1 : Int32)), (.ref el)])) rfl rfl (hb hby own_d18_23)
  refine own_by st49 ?_
  have F49_elements_a1 := B0.2.1.other W49 (Or.inl (own_Ar.ne B0.1 B0.2.2.2.2.1 (hw _ (List.mem_of_getElem? (i := 58) rfl))))
  have F49_head_a1 := B0.2.2.1.other W49 (Or.inl (own_Ar.ne B0.1 B0.2.2.2.2.1 (hw _ (List.mem_of_getElem? (i := 58) rfl))))
  have F49_tail_a1 := B0.2.2.2.1.other W49 (Or.inl (own_Ar.ne B0.1 B0.2.2.2.2.1 (hw _ (List.mem_of_getElem? (i := 58) rfl))))
  have Ex49_a1 := B0.1.wr W49
  have xa49 := B0.2.2.2.2.1.same W49
  have K49 := (Keep.refl h0 [a1, el]).wr W49 (Or.inl (by simp))
  have Z49 := Nat.le_trans Z0 (Keep.of_wr W49).1
  have N49 := Fr.snoc X49 N0 ge
  show own_Go p.tables e below K (T49.setTop (mkF m 24 #[.val (.ref a1), .val (.ref x1), .val (.ref el)] []))
  refine own_by (fun t k => XS.aloadN X49.here hx rfl (hb hby own_d18_24) rfl rfl k) ?_
  show own_Go p.tables e below K (T49.setTop (mkF m 25 #[.val (.ref a1), .val (.ref x1), .val (.ref el)] [(.ref a1)]))
  obtain ⟨T50, X50, e50, st50⟩ := getF X49 hx hZ hown (host := "") (Or.inl (hw _ (List.mem_of_getElem? (i := 156) rfl))) Via.refl e49 F49_head_a1 (g := (mkF m 25 #[.val (.ref a1), .val (.ref x1), .val (.ref el)] [(.ref a1)])) rfl rfl (hb hby own_d18_25)
  refine own_by st50 ?_
  show own_Go p.tables e below K (T50.setTop (mkF m 28 #[.val (.ref a1), .val (.ref x1), .val (.ref el)] [(.int (0 : Int32))]))
  refine own_by (fun t k => XS.aloadN X50.here hx rfl (hb hby own_d18_28) rfl rfl k) ?_
  show own_Go p.tables e below K (T50.setTop (mkF m 29 #[.val (.ref a1), .val (.ref x1), .val (.ref el)] [(.ref a1), (.int (0 : Int32))]))
  refine own_by (fun t k => XS.aloadN X50.here hx rfl (hb hby own_d18_29) rfl rfl k) ?_
  show own_Go p.tables e below K (T50.setTop (mkF m 30 #[.val (.ref a1), .val (.ref x1), .val (.ref el)] [(.ref a1), (.ref a1), (.int (0 : Int32))]))
  obtain ⟨T51, X51, e51, st51⟩ := getF X50 hx hZ hown (host := "") (Or.inl (hw _ (List.mem_of_getElem? (i := 153) rfl))) Via.refl e50 F49_tail_a1 (g := (mkF m 30 #[.val (.ref a1), .val (.ref x1), .val (.ref el)] [(.ref a1), (.ref a1), (.int (0 : Int32))])) rfl rfl (hb hby own_d18_30)
  refine own_by st51 ?_
  show own_Go p.tables e below K (T51.setTop (mkF m 33 #[.val (.ref a1), .val (.ref x1), .val (.ref el)] [(.int (1 : Int32)), (.ref a1), (.int (0 : Int32))]))
  refine own_by (fun t k => XS.aloadN X51.here hx rfl (hb hby own_d18_33) rfl rfl k) ?_
  show own_Go p.tables e below K (T51.setTop (mkF m 34 #[.val (.ref a1), .val (.ref x1), .val (.ref el)] [(.ref el), (.int (1 : Int32)), (.ref a1), (.int (0 : Int32))]))
  obtain ⟨cl52, Ar52, sz52, kc52⟩ := id xa49
  refine own_by (fun t k => X51.arraylength hx (by rw [e51]; exact Ar52.1) (State.isArrayOf_alike hZ.alike Ar52.2.1) (g := (mkF m 34 #[.val (.ref a1), .val (.ref x1), .val (.ref el)] [(.ref el), (.int (1 : Int32)), (.ref a1), (.int (0 : Int32))])) rfl rfl (hb hby own_d18_34) t k) ?_
  rw [sz52]
  show own_Go p.tables e below K (T51.setTop (mkF m 35 #[.val (.ref a1), .val (.ref x1), .val (.ref el)] [(.int (17 : Int32)), (.int (1 : Int32)), (.ref a1), (.int (0 : Int32))]))
  obtain ⟨_, _, ⟨T53, L53, k53, n53⟩, -, X53, ⟨Lc53, hQ53, l53, y53, z53⟩, st53⟩ := Jvm.LawKit.callS X51 hx (y := (⟨"java/util/ArrayDeque", "inc", "(II)I"⟩ : MethodName)) hown (mvT hZ (hw _ (List.mem_of_getElem? (i := 158) rfl))) (mvT hZ (hw _ (List.mem_of_getElem? (i := 159) rfl))) (mvT hZ (hw _ (List.mem_of_getElem? (i := 59) rfl))) (mvT hZ (hw _ (List.mem_of_getElem? (i := 160) rfl))) (by decide) (backOf (W := 2) (own_rminc l Z aw hw [] (1 : Int32) 17 h49 n0 Z49) hZ (hw _ (List.mem_of_getElem? (i := 160) rfl)) (hw _ (List.mem_of_getElem? (i := 59) rfl)) (by decide) (by decide)) (g := (mkF m 35 #[.val (.ref a1), .val (.ref x1), .val (.ref el)] [(.int (17 : Int32)), (.int (1 : Int32)), (.ref a1), (.int (0 : Int32))])) rfl (by rw [hml]; rfl) (argsL := [(.int (1 : Int32)), (.int (17 : Int32))]) (rest := [(.ref a1), (.int (0 : Int32))]) (lenOf own_pd2 rfl) rfl (by show 2 * 0 + _ ≤ _; exact Nat.le_of_eq rfl) (hb hby own_d18_35) (fun _ _ => ⟨rfl, e51, (by decide : 0 + 0 ≤ _), (by decide : 0 + 0 ≤ _)⟩)
  dsimp only [Pt.U, Pt.locs, Pt.cells, Pt.slots] at X53 l53 y53 z53 st53 hQ53
  subst l53 y53 z53
  obtain ⟨rfl, N53q, e53⟩ := hQ53
  have N53 := Fr.app N49 N53q
  refine own_by st53 ?_
  show own_Go p.tables e below K (T53.setTop (mkF m 38 #[.val (.ref a1), .val (.ref x1), .val (.ref el)] [(.int (2 : Int32)), (.ref a1), (.int (0 : Int32))]))
  refine own_by (fun t k => XS.dupX1 X53.here hx rfl (hb hby own_d18_38) rfl rfl rfl k) ?_
  show own_Go p.tables e below K (T53.setTop (mkF m 39 #[.val (.ref a1), .val (.ref x1), .val (.ref el)] [(.int (2 : Int32)), (.ref a1), (.int (2 : Int32)), (.int (0 : Int32))]))
  obtain ⟨T54, h54, X54, e54, W54, st54⟩ := putF X53 hx hZ hown (host := "") (Or.inl (hw _ (List.mem_of_getElem? (i := 153) rfl))) Via.refl e53 F49_tail_a1 Ex49_a1 (Or.inl (hw _ (List.mem_of_getElem? (i := 154) rfl))) (hw _ (List.mem_of_getElem? (i := 58) rfl)) (ty := .int) (by decide) rfl rfl (g := (mkF m 39 #[.val (.ref a1), .val (.ref x1), .val (.ref el)] [(.int (2 : Int32)), (.ref a1), (.int (2 : Int32)), (.int (0 : Int32))])) rfl rfl (hb hby own_d18_39)
  refine own_by st54 ?_
  have F54_elements_a1 := F49_elements_a1.other W54 (Or.inr (slot_ne (Or.inl (hw _ (List.mem_of_getElem? (i := 68) rfl))) (Or.inl (hw _ (List.mem_of_getElem? (i := 154) rfl))) (by decide) (t := (.array (.object "java/lang/Object"))) (t' := .int) (by decide) (by decide)))
  have F54_head_a1 := F49_head_a1.other W54 (Or.inr (slot_ne (Or.inl (hw _ (List.mem_of_getElem? (i := 157) rfl))) (Or.inl (hw _ (List.mem_of_getElem? (i := 154) rfl))) (by decide) (t := .int) (t' := .int) (by decide) (by decide)))
  have F54_tail_a1 := F49_tail_a1.same W54
  have xa54_el := xa49.other W54 (Ne.symm (own_Ar.ne Ex49_a1 xa49 (hw _ (List.mem_of_getElem? (i := 58) rfl))))
  have Ex54_a1 := Ex49_a1.wr W54
  have K54 := K49.wr W54 (Or.inl (by simp))
  have Z54 := Nat.le_trans Z49 (Keep.of_wr W54).1
  have N54 := Fr.snoc X54 N53 ga
  show own_Go p.tables e below K (T54.setTop (mkF m 42 #[.val (.ref a1), .val (.ref x1), .val (.ref el)] [(.int (2 : Int32)), (.int (0 : Int32))]))
  have hc42 : ¬ ((0 : Int32) = (2 : Int32)) := by decide
  refine own_by (fun t k => XS.icmpYes X54.here hx rfl (pc0 := 42) (pc' := 50) rfl (hb hby own_d18_42) rfl (feq hc42).2 (by decide) (by decide) k) ?_
  show own_Go p.tables e below K (T54.setTop (mkF m 50 #[.val (.ref a1), .val (.ref x1), .val (.ref el)] []))
  exact own_retV X54 hx hret (hb hby own_d18_50) (hK none X54 (fun _ => rfl) (by rw [e54]; exact ⟨rfl, N54, K54, ⟨Ex54_a1, F54_elements_a1, F54_head_a1, F54_tail_a1, xa54_el, B0.2.2.2.2.2⟩⟩) (by decide) (by decide))
theorem own_efadd1 (m : MethodId) (a1 : Addr) (x1 : Addr) : entryFrame m #[(.ref a1), (.ref x1)] 2 = mkF m 0 #[.val (.ref a1), .val (.ref x1)] [] := by first | (simp [entryFrame, mkF, argsToLocals, Value.category]; done) | rfl
def own_Qadd1 (Z : State) (a1 : Addr) (x1 : Addr) (el : Addr) (k : ClassId) (h0 : Heap) (n0 : Nat) (v : Option Value) (h : Heap) (L : List Loc) : Prop := v = some (.int (1 : Int32)) ∧ Fr n0 L ∧ Keep h0 h [a1, el] ∧ own_DQ Z h a1 el k (2 : Int32)
set_option maxRecDepth 65536 in
set_option maxHeartbeats 40000000 in
theorem own_rmadd1 (l : Launch) (Z : State) (aw : Array Value) (hw : ∀ d ∈ tables_1, d.before aw Z = true) (ws : List Jvm.Cond) (a1 : Addr) (x1 : Addr) (el : Addr) (k : ClassId) (h0 : Heap) (n0 : Nat) (Z0 : n0 ≤ h0.size) (B0 : own_DQ Z h0 a1 el k (1 : Int32)) (hI : Ins Z h0 x1 "java/lang/Object" true) (ga : n0 ≤ a1) (ge : n0 ≤ el) :
    MetFree l (⟨"java/util/ArrayDeque", "add", "(Ljava/lang/Object;)Z"⟩ : MethodName) (head1 (Jvm.Cond.code (⟨"java/util/ArrayDeque", "add", "(Ljava/lang/Object;)Z"⟩ : MethodName) jdk_21_method_28_code 2 (some .boolean) :: ws) ({ frames := 2, cells := 0, slots := 0, locals := 45 } : Room)) (fun a U => a = #[(.ref a1), (.ref x1)] ∧ Z.Warmed39 U.vm ∧ U.heap = h0) (fun _ _ _ _ _ => True) (fun _ U o U' => ∃ v L, o = .returned v ∧ own_Qadd1 Z a1 x1 el k h0 n0 v U'.heap L ∧ FrameEnd U o U' L ({ frames := 2, cells := 0, slots := 0, locals := 45 } : Room).cells ({ frames := 2, cells := 0, slots := 0, locals := 45 } : Room).slots) := by
  refine own_met (Q := own_Qadd1 Z a1 x1 el k h0 n0) (plainFor_of_name own_pn9) ?_
  intro p e s m below meth c s₁ K hx hby hml hown hnm hret hZ X0 e0 hK
  have hown : s.vm.findClass "java/util/ArrayDeque" = some m.cls := hown
  have N0 := Fr.nil n0
  refine own_by (fun t k => castTop (own_efadd1 m a1 x1) k) ?_
  show own_Go p.tables e below K (s₁.setTop (mkF m 0 #[.val (.ref a1), .val (.ref x1)] []))
  refine own_by (fun t k => XS.aloadN X0.here hx rfl (hb hby own_d17_0) rfl rfl k) ?_
  show own_Go p.tables e below K (s₁.setTop (mkF m 1 #[.val (.ref a1), .val (.ref x1)] [(.ref a1)]))
  refine own_by (fun t k => XS.aloadN X0.here hx rfl (hb hby own_d17_1) rfl rfl k) ?_
  show own_Go p.tables e below K (s₁.setTop (mkF m 2 #[.val (.ref a1), .val (.ref x1)] [(.ref x1), (.ref a1)]))
  obtain ⟨cq55, kq55, q55a, q55b, q55c⟩ := isOf hZ e0 B0.1
  obtain ⟨_, _, ⟨T55, L55, k55, n55⟩, -, X55, ⟨Lc55, hQ55, l55, y55, z55⟩, st55⟩ := X0.virtualBack hx (y := (⟨"java/util/ArrayDeque", "addLast", "(Ljava/lang/Object;)V"⟩ : MethodName)) (z := (⟨"java/util/ArrayDeque", "addLast", "(Ljava/lang/Object;)V"⟩ : MethodName)) hown (mvT hZ (hw _ (List.mem_of_getElem? (i := 148) rfl))) (mvT hZ (hw _ (List.mem_of_getElem? (i := 149) rfl))) (notFace_of_selects (args := #[]) (mvT hZ (hw _ (List.mem_of_getElem? (i := 151) rfl)))) (mvT hZ (hw _ (List.mem_of_getElem? (i := 151) rfl))) (mvT hZ (hw _ (List.mem_of_getElem? (i := 150) rfl))) (by decide) (backOf (W := 0) (own_rmadl1 l Z aw hw [] a1 x1 el k h0 n0 Z0 B0 hI ga ge) hZ (hw _ (List.mem_of_getElem? (i := 152) rfl)) (hw _ (List.mem_of_getElem? (i := 59) rfl)) (by decide) (by decide)) q55a q55c (g := (mkF m 2 #[.val (.ref a1), .val (.ref x1)] [(.ref x1), (.ref a1)])) rfl (by rw [hml]; rfl) (Steps.refl _) (argsL := [(.ref x1)]) (rest := []) (lenOf own_pd3 rfl) rfl (by show 2 * 0 + _ ≤ _; exact Nat.le_of_eq rfl) (hb hby own_d17_2) (fun _ _ => ⟨rfl, e0, (by decide : 0 + 0 ≤ _), (by decide : 0 + 0 ≤ _)⟩)
  dsimp only [Pt.U, Pt.locs, Pt.cells, Pt.slots] at X55 l55 y55 z55 st55 hQ55
  subst l55 y55 z55
  obtain ⟨rfl, N55q, Kp55, Bp55⟩ := hQ55
  have N55 := Fr.app N0 N55q
  refine own_by (fun t k => st55.trans k) ?_
  show own_Go p.tables e below K (T55.setTop (mkF m 5 #[.val (.ref a1), .val (.ref x1)] []))
  refine own_by (fun t k => XS.iconst X55.here hx rfl (hb hby own_d17_5) k) ?_
  show own_Go p.tables e below K (T55.setTop (mkF m 6 #[.val (.ref a1), .val (.ref x1)] [(.int (1 : Int32))]))
  exact own_retZ X55 hx (t := .boolean) hret (by simp) (hb hby own_d17_6) (hK (some (.int (1 : Int32))) X55 (fun h => by rw [hret] at h; cases h) (⟨rfl, N55, Kp55, Bp55⟩) (by decide) (by decide))
theorem own_pd4 : parseMethodDescriptor "()Ljava/util/Iterator;" = some ⟨[], some (.object "java/util/Iterator")⟩ := by decide +kernel
theorem own_pd5 : parseMethodDescriptor "()Z" = some ⟨[], some .boolean⟩ := by decide +kernel
theorem own_pd6 : parseMethodDescriptor "(JJ)J" = some ⟨[.long, .long], some .long⟩ := by decide +kernel
theorem own_pd7 : parseMethodDescriptor "(Ljava/util/List;J)V" = some ⟨[(.object "java/util/List"), .long], none⟩ := by decide +kernel
theorem own_pd8 : parseMethodDescriptor "(Ljava/lang/Object;)Z" = some ⟨[(.object "java/lang/Object")], some .boolean⟩ := by decide +kernel
theorem own_pd9 : parseMethodDescriptor "()I" = some ⟨[], some .int⟩ := by decide +kernel
theorem own_d11_0 : decode prog_49_method_2_code 0 = .ok (.aload_n 1, 1) := by decide +kernel
theorem own_d11_1 : decode prog_49_method_2_code 1 = .ok (.invokeinterface 25 1, 5) := by decide +kernel
theorem own_d11_6 : decode prog_49_method_2_code 6 = .ok (.astore 9, 2) := by decide +kernel
theorem own_d11_8 : decode prog_49_method_2_code 8 = .ok (.aload 9, 2) := by decide +kernel
theorem own_d11_10 : decode prog_49_method_2_code 10 = .ok (.invokeinterface 31 1, 5) := by decide +kernel
theorem own_d11_15 : decode prog_49_method_2_code 15 = .ok (.ifCond .eq 71, 3) := by decide +kernel
theorem own_d11_86 : decode prog_49_method_2_code 86 = .ok (.aload_n 2, 1) := by decide +kernel
theorem own_d11_87 : decode prog_49_method_2_code 87 = .ok (.invokeinterface 25 1, 5) := by decide +kernel
theorem own_d11_92 : decode prog_49_method_2_code 92 = .ok (.astore 9, 2) := by decide +kernel
theorem own_d11_94 : decode prog_49_method_2_code 94 = .ok (.aload 9, 2) := by decide +kernel
theorem own_d11_96 : decode prog_49_method_2_code 96 = .ok (.invokeinterface 31 1, 5) := by decide +kernel
theorem own_d11_101 : decode prog_49_method_2_code 101 = .ok (.ifCond .eq 70, 3) := by decide +kernel
theorem own_d11_171 : decode prog_49_method_2_code 171 = .ok (.aload_n 0, 1) := by decide +kernel
theorem own_d11_172 : decode prog_49_method_2_code 172 = .ok (.aload_n 0, 1) := by decide +kernel
theorem own_d11_173 : decode prog_49_method_2_code 173 = .ok (.getfield 85, 3) := by decide +kernel
theorem own_d11_176 : decode prog_49_method_2_code 176 = .ok (.lload_n 3, 1) := by decide +kernel
theorem own_d11_177 : decode prog_49_method_2_code 177 = .ok (.invokestatic 63, 3) := by decide +kernel
theorem own_d11_180 : decode prog_49_method_2_code 180 = .ok (.putfield 85, 3) := by decide +kernel
theorem own_d11_183 : decode prog_49_method_2_code 183 = .ok (.lload 7, 2) := by decide +kernel
theorem own_d11_185 : decode prog_49_method_2_code 185 = .ok (.ldc2_w 88, 3) := by decide +kernel
theorem own_d11_188 : decode prog_49_method_2_code 188 = .ok (.lcmp, 1) := by decide +kernel
theorem own_d11_189 : decode prog_49_method_2_code 189 = .ok (.ifCond .eq 39, 3) := by decide +kernel
theorem own_d11_192 : decode prog_49_method_2_code 192 = .ok (.aload_n 0, 1) := by decide +kernel
theorem own_d11_193 : decode prog_49_method_2_code 193 = .ok (.getfield 21, 3) := by decide +kernel
theorem own_d11_196 : decode prog_49_method_2_code 196 = .ok (.new 90, 3) := by decide +kernel
theorem own_d11_199 : decode prog_49_method_2_code 199 = .ok (.dup, 1) := by decide +kernel
theorem own_d11_200 : decode prog_49_method_2_code 200 = .ok (.aload_n 2, 1) := by decide +kernel
theorem own_d11_201 : decode prog_49_method_2_code 201 = .ok (.lload 7, 2) := by decide +kernel
theorem own_d11_203 : decode prog_49_method_2_code 203 = .ok (.invokespecial 92, 3) := by decide +kernel
theorem own_d11_206 : decode prog_49_method_2_code 206 = .ok (.invokeinterface 95 2, 5) := by decide +kernel
theorem own_d11_211 : decode prog_49_method_2_code 211 = .ok (.pop, 1) := by decide +kernel
theorem own_d11_212 : decode prog_49_method_2_code 212 = .ok (.aload_n 0, 1) := by decide +kernel
theorem own_d11_213 : decode prog_49_method_2_code 213 = .ok (.dup, 1) := by decide +kernel
theorem own_d11_214 : decode prog_49_method_2_code 214 = .ok (.getfield 101, 3) := by decide +kernel
theorem own_d11_217 : decode prog_49_method_2_code 217 = .ok (.aload_n 2, 1) := by decide +kernel
theorem own_d11_218 : decode prog_49_method_2_code 218 = .ok (.invokeinterface 104 1, 5) := by decide +kernel
theorem own_d11_223 : decode prog_49_method_2_code 223 = .ok (.i2l, 1) := by decide +kernel
theorem own_d11_224 : decode prog_49_method_2_code 224 = .ok (.ladd, 1) := by decide +kernel
theorem own_d11_225 : decode prog_49_method_2_code 225 = .ok (.putfield 101, 3) := by decide +kernel
theorem own_d11_228 : decode prog_49_method_2_code 228 = .ok (.aload_n 0, 1) := by decide +kernel
theorem own_d11_229 : decode prog_49_method_2_code 229 = .ok (.getfield 101, 3) := by decide +kernel
theorem own_d11_232 : decode prog_49_method_2_code 232 = .ok (.ldc2_w 108, 3) := by decide +kernel
theorem own_d11_235 : decode prog_49_method_2_code 235 = .ok (.lcmp, 1) := by decide +kernel
theorem own_d11_236 : decode prog_49_method_2_code 236 = .ok (.ifCond .le 114, 3) := by decide +kernel
theorem own_d11_350 : decode prog_49_method_2_code 350 = .ok (.return_, 1) := by decide +kernel
theorem own_effadd0 (m : MethodId) (a1 : Addr) (r1 : Addr) (r2 : Addr) (j1 : Int64) (j2 : Int64) (j3 : Int64) : entryFrame m #[(.ref a1), (.ref r1), (.ref r2), (.long j1), (.long j2), (.long j3)] 13 = mkF m 0 #[.val (.ref a1), .val (.ref r1), .val (.ref r2), .val (.long j1), .second, .val (.long j2), .second, .val (.long j3), .second, .unset, .unset, .unset, .unset] [] := by first | (simp [entryFrame, mkF, argsToLocals, Value.category]; done) | rfl
def own_Qfadd0 (Z : State) (a1 : Addr) (r1 : Addr) (r2 : Addr) (j1 : Int64) (j2 : Int64) (j3 : Int64) (hm : Addr) (dq : Addr) (el : Addr) (k : ClassId) (mc : Int32) (la : Int64) (h0 : Heap) (n0 : Nat) (v : Option Value) (h : Heap) (L : List Loc) : Prop := v = none ∧ Fr n0 L ∧ Keep h0 h [a1, dq, el] ∧ (own_FT Z h a1 hm dq el k mc (0 : Int32) (own_mx la j1) ∨ own_FT Z h a1 hm dq el k mc (1 : Int32) (own_mx la j1))
set_option maxRecDepth 65536 in
set_option maxHeartbeats 40000000 in
theorem own_rmfadd0 (l : Launch) (Z : State) (aw : Array Value) (hw : ∀ d ∈ tables_1, d.before aw Z = true) (ws : List Jvm.Cond) (a1 : Addr) (r1 : Addr) (r2 : Addr) (j1 : Int64) (j2 : Int64) (j3 : Int64) (hm : Addr) (dq : Addr) (el : Addr) (k : ClassId) (mc : Int32) (la : Int64) (h0 : Heap) (n0 : Nat) (Z0 : n0 ≤ h0.size) (B0 : own_FT Z h0 a1 hm dq el k mc (0 : Int32) la) (BR : own_AL Z h0 r1) (BW : own_AL Z h0 r2) (ga : n0 ≤ a1) (gh : n0 ≤ hm) (gd : n0 ≤ dq) (ge : n0 ≤ el) :
    MetFree l (⟨"com/example/predicate/predicate/engine/FoldedTransactions", "add", "(Ljava/util/List;Ljava/util/List;JJJ)V"⟩ : MethodName) (head1 (Jvm.Cond.code (⟨"com/example/predicate/predicate/engine/FoldedTransactions", "add", "(Ljava/util/List;Ljava/util/List;JJJ)V"⟩ : MethodName) prog_49_method_2_code 13 none :: ws) ({ frames := 4, cells := 3, slots := 10, locals := 90 } : Room)) (fun a U => a = #[(.ref a1), (.ref r1), (.ref r2), (.long j1), (.long j2), (.long j3)] ∧ Z.Warmed39 U.vm ∧ U.heap = h0) (fun _ _ _ _ _ => True) (fun _ U o U' => ∃ v L, o = .returned v ∧ own_Qfadd0 Z a1 r1 r2 j1 j2 j3 hm dq el k mc la h0 n0 v U'.heap L ∧ FrameEnd U o U' L ({ frames := 4, cells := 3, slots := 10, locals := 90 } : Room).cells ({ frames := 4, cells := 3, slots := 10, locals := 90 } : Room).slots) := by
  refine own_met (Q := own_Qfadd0 Z a1 r1 r2 j1 j2 j3 hm dq el k mc la h0 n0) (plainFor_of_name own_pn6) ?_
  intro p e s m below meth c s₁ K hx hby hml hown hnm hret hZ X0 e0 hK
  have hown : s.vm.findClass "com/example/predicate/predicate/engine/FoldedTransactions" = some m.cls := hown
  have N0 := Fr.nil n0
  refine own_by (fun t k => castTop (own_effadd0 m a1 r1 r2 j1 j2 j3) k) ?_
  show own_Go p.tables e below K (s₁.setTop (mkF m 0 #[.val (.ref a1), .val (.ref r1), .val (.ref r2), .val (.long j1), .second, .val (.long j2), .second, .val (.long j3), .second, .unset, .unset, .unset, .unset] []))
  refine own_by (fun t k => XS.aloadN X0.here hx rfl (hb hby own_d11_0) rfl rfl k) ?_
  show own_Go p.tables e below K (s₁.setTop (mkF m 1 #[.val (.ref a1), .val (.ref r1), .val (.ref r2), .val (.long j1), .second, .val (.long j2), .second, .val (.long j3), .second, .unset, .unset, .unset, .unset] [(.ref r1)]))
  obtain ⟨cq56, kq56, q56a, q56b, q56c⟩ := isOf hZ e0 BR.1
  obtain ⟨_, _, ⟨T56, L56, k56, n56⟩, -, X56, ⟨Lc56, hQ56, l56, y56, z56⟩, st56⟩ := X0.interfaceBack hx (xi := (⟨"java/util/List", "iterator", "()Ljava/util/Iterator;"⟩ : MethodName)) (y := (⟨"java/util/ArrayList", "iterator", "()Ljava/util/Iterator;"⟩ : MethodName)) hown (mvT hZ (hw _ (List.mem_of_getElem? (i := 83) rfl))) (mvT hZ (hw _ (List.mem_of_getElem? (i := 84) rfl))) (mvT hZ (hw _ (List.mem_of_getElem? (i := 85) rfl))) (mvT hZ (hw _ (List.mem_of_getElem? (i := 86) rfl))) (mvT hZ (hw _ (List.mem_of_getElem? (i := 87) rfl))) (mvT hZ (hw _ (List.mem_of_getElem? (i := 88) rfl))) (mvT hZ (hw _ (List.mem_of_getElem? (i := 89) rfl))) (mvT hZ (hw _ (List.mem_of_getElem? (i := 90) rfl))) (by decide) (backOf (W := 0) (own_rmitr l Z aw hw [] r1 h0 n0 Z0 ⟨BR.1, BR.2.1, BR.2.2⟩) hZ (hw _ (List.mem_of_getElem? (i := 91) rfl)) (hw _ (List.mem_of_getElem? (i := 8) rfl)) (by decide) (by decide)) q56a q56b q56c (g := (mkF m 1 #[.val (.ref a1), .val (.ref r1), .val (.ref r2), .val (.long j1), .second, .val (.long j2), .second, .val (.long j3), .second, .unset, .unset, .unset, .unset] [(.ref r1)])) rfl (by rw [hml]; rfl) (Steps.refl _) (argsL := []) (rest := []) (lenOf own_pd4 rfl) rfl (by show 2 * 0 + _ ≤ _; exact Nat.le_of_eq rfl) (hb hby own_d11_1) (fun _ _ => ⟨rfl, e0, (by decide : 0 + 1 ≤ _), (by decide : 0 + 4 ≤ _)⟩)
  dsimp only [Pt.U, Pt.locs, Pt.cells, Pt.slots] at X56 l56 y56 z56 st56 hQ56
  subst l56 y56 z56
  obtain ⟨it56, rfl, N56q, Kp56, Ip56⟩ := hQ56
  have N56 := Fr.app N0 N56q
  refine own_by (fun t k => st56.trans k) ?_
  have xa56_el := B0.2.2.2.2.2.2.2.2.2.2.1.keep Kp56 nin0
  have F56_tables_a1 := B0.2.1.keep Kp56 nin0
  have F56_pivots_a1 := B0.2.2.1.keep Kp56 nin0
  have F56_pivotWrites_a1 := B0.2.2.2.1.keep Kp56 nin0
  have F56_last_a1 := B0.2.2.2.2.1.keep Kp56 nin0
  have F56_modCount_hm := B0.2.2.2.2.2.1.2.1.keep Kp56 nin0
  have F56_table_hm := B0.2.2.2.2.2.1.2.2.keep Kp56 nin0
  have F56_elements_dq := B0.2.2.2.2.2.2.2.1.keep Kp56 nin0
  have F56_head_dq := B0.2.2.2.2.2.2.2.2.1.keep Kp56 nin0
  have F56_tail_dq := B0.2.2.2.2.2.2.2.2.2.1.keep Kp56 nin0
  have F56_modCount_r1 := BR.2.1.keep Kp56 nin0
  have F56_size_r1 := BR.2.2.keep Kp56 nin0
  have F56_modCount_r2 := BW.2.1.keep Kp56 nin0
  have F56_size_r2 := BW.2.2.keep Kp56 nin0
  have Ex56_a1 := B0.1.keep Kp56
  have Ex56_hm := B0.2.2.2.2.2.1.1.keep Kp56
  have Ex56_dq := B0.2.2.2.2.2.2.1.keep Kp56
  have Ex56_r1 := BR.1.keep Kp56
  have Ex56_r2 := BW.1.keep Kp56
  have K56 := (Keep.refl h0 [a1, dq, el]).trans Kp56 (all0)
  have Z56 := Nat.le_trans Z0 Kp56.1
  show own_Go p.tables e below K (T56.setTop (mkF m 6 #[.val (.ref a1), .val (.ref r1), .val (.ref r2), .val (.long j1), .second, .val (.long j2), .second, .val (.long j3), .second, .unset, .unset, .unset, .unset] [(.ref it56)]))
  refine own_by (fun t k => XS.astore X56.here hx rfl (hb hby own_d11_6) rfl rfl (l' := #[.val (.ref a1), .val (.ref r1), .val (.ref r2), .val (.long j1), .second, .val (.long j2), .second, .val (.long j3), .second, .val (.ref it56), .unset, .unset, .unset]) rfl k) ?_
  show own_Go p.tables e below K (T56.setTop (mkF m 8 #[.val (.ref a1), .val (.ref r1), .val (.ref r2), .val (.long j1), .second, .val (.long j2), .second, .val (.long j3), .second, .val (.ref it56), .unset, .unset, .unset] []))
  refine own_by (fun t k => XS.aload X56.here hx rfl (hb hby own_d11_8) rfl rfl k) ?_
  show own_Go p.tables e below K (T56.setTop (mkF m 10 #[.val (.ref a1), .val (.ref r1), .val (.ref r2), .val (.long j1), .second, .val (.long j2), .second, .val (.long j3), .second, .val (.ref it56), .unset, .unset, .unset] [(.ref it56)]))
  obtain ⟨cq57, kq57, q57a, q57b, q57c⟩ := isOf hZ rfl Ip56.1
  obtain ⟨_, _, ⟨T57, L57, k57, n57⟩, -, X57, ⟨Lc57, hQ57, l57, y57, z57⟩, st57⟩ := X56.interfaceBack hx (xi := (⟨"java/util/Iterator", "hasNext", "()Z"⟩ : MethodName)) (y := (⟨"java/util/ArrayList$Itr", "hasNext", "()Z"⟩ : MethodName)) hown (mvT hZ (hw _ (List.mem_of_getElem? (i := 108) rfl))) (mvT hZ (hw _ (List.mem_of_getElem? (i := 109) rfl))) (mvT hZ (hw _ (List.mem_of_getElem? (i := 110) rfl))) (mvT hZ (hw _ (List.mem_of_getElem? (i := 111) rfl))) (mvT hZ (hw _ (List.mem_of_getElem? (i := 112) rfl))) (mvT hZ (hw _ (List.mem_of_getElem? (i := 113) rfl))) (mvT hZ (hw _ (List.mem_of_getElem? (i := 114) rfl))) (mvT hZ (hw _ (List.mem_of_getElem? (i := 115) rfl))) (by decide) (backOf (W := 0) (own_rmhas l Z aw hw [] it56 r1 T56.heap n0 Z56 Ip56 ⟨Ex56_r1, F56_modCount_r1, F56_size_r1⟩) hZ (hw _ (List.mem_of_getElem? (i := 116) rfl)) (hw _ (List.mem_of_getElem? (i := 94) rfl)) (by decide) (by decide)) q57a q57b q57c (g := (mkF m 10 #[.val (.ref a1), .val (.ref r1), .val (.ref r2), .val (.long j1), .second, .val (.long j2), .second, .val (.long j3), .second, .val (.ref it56), .unset, .unset, .unset] [(.ref it56)])) rfl (by rw [hml]; rfl) (Steps.refl _) (argsL := []) (rest := []) (lenOf own_pd5 rfl) rfl (by show 2 * 0 + _ ≤ _; exact Nat.le_of_eq rfl) (hb hby own_d11_10) (fun _ _ => ⟨rfl, rfl, (by decide : 1 + 0 ≤ _), (by decide : 4 + 0 ≤ _)⟩)
  dsimp only [Pt.U, Pt.locs, Pt.cells, Pt.slots] at X57 l57 y57 z57 st57 hQ57
  subst l57 y57 z57
  obtain ⟨rfl, N57q, e57⟩ := hQ57
  have N57 := Fr.app N56 N57q
  refine own_by (fun t k => st57.trans k) ?_
  show own_Go p.tables e below K (T57.setTop (mkF m 15 #[.val (.ref a1), .val (.ref r1), .val (.ref r2), .val (.long j1), .second, .val (.long j2), .second, .val (.long j3), .second, .val (.ref it56), .unset, .unset, .unset] [(.int (0 : Int32))]))
  have hc15 : (0 : Int32) = (0 : Int32) := by decide
  refine own_by (fun t k => XS.ifYes X57.here hx rfl (pc0 := 15) (pc' := 86) rfl (hb hby own_d11_15) rfl ((if0 _ _).trans (teq hc15).1) (by decide) (by decide) k) ?_
  show own_Go p.tables e below K (T57.setTop (mkF m 86 #[.val (.ref a1), .val (.ref r1), .val (.ref r2), .val (.long j1), .second, .val (.long j2), .second, .val (.long j3), .second, .val (.ref it56), .unset, .unset, .unset] []))
  refine own_by (fun t k => XS.aloadN X57.here hx rfl (hb hby own_d11_86) rfl rfl k) ?_
  show own_Go p.tables e below K (T57.setTop (mkF m 87 #[.val (.ref a1), .val (.ref r1), .val (.ref r2), .val (.long j1), .second, .val (.long j2), .second, .val (.long j3), .second, .val (.ref it56), .unset, .unset, .unset] [(.ref r2)]))
  obtain ⟨cq58, kq58, q58a, q58b, q58c⟩ := isOf hZ e57 Ex56_r2
  obtain ⟨_, _, ⟨T58, L58, k58, n58⟩, -, X58, ⟨Lc58, hQ58, l58, y58, z58⟩, st58⟩ := X57.interfaceBack hx (xi := (⟨"java/util/List", "iterator", "()Ljava/util/Iterator;"⟩ : MethodName)) (y := (⟨"java/util/ArrayList", "iterator", "()Ljava/util/Iterator;"⟩ : MethodName)) hown (mvT hZ (hw _ (List.mem_of_getElem? (i := 83) rfl))) (mvT hZ (hw _ (List.mem_of_getElem? (i := 84) rfl))) (mvT hZ (hw _ (List.mem_of_getElem? (i := 85) rfl))) (mvT hZ (hw _ (List.mem_of_getElem? (i := 86) rfl))) (mvT hZ (hw _ (List.mem_of_getElem? (i := 87) rfl))) (mvT hZ (hw _ (List.mem_of_getElem? (i := 88) rfl))) (mvT hZ (hw _ (List.mem_of_getElem? (i := 89) rfl))) (mvT hZ (hw _ (List.mem_of_getElem? (i := 90) rfl))) (by decide) (backOf (W := 0) (own_rmitr l Z aw hw [] r2 T56.heap n0 Z56 ⟨Ex56_r2, F56_modCount_r2, F56_size_r2⟩) hZ (hw _ (List.mem_of_getElem? (i := 91) rfl)) (hw _ (List.mem_of_getElem? (i := 8) rfl)) (by decide) (by decide)) q58a q58b q58c (g := (mkF m 87 #[.val (.ref a1), .val (.ref r1), .val (.ref r2), .val (.long j1), .second, .val (.long j2), .second, .val (.long j3), .second, .val (.ref it56), .unset, .unset, .unset] [(.ref r2)])) rfl (by rw [hml]; rfl) (Steps.refl _) (argsL := []) (rest := []) (lenOf own_pd4 rfl) rfl (by show 2 * 0 + _ ≤ _; exact Nat.le_of_eq rfl) (hb hby own_d11_87) (fun _ _ => ⟨rfl, e57, (by decide : 1 + 1 ≤ _), (by decide : 4 + 4 ≤ _)⟩)
  dsimp only [Pt.U, Pt.locs, Pt.cells, Pt.slots] at X58 l58 y58 z58 st58 hQ58
  subst l58 y58 z58
  obtain ⟨it58, rfl, N58q, Kp58, Ip58⟩ := hQ58
  have N58 := Fr.app N57 N58q
  refine own_by (fun t k => st58.trans k) ?_
  have xa58_el := xa56_el.keep Kp58 nin0
  have F58_tables_a1 := F56_tables_a1.keep Kp58 nin0
  have F58_pivots_a1 := F56_pivots_a1.keep Kp58 nin0
  have F58_pivotWrites_a1 := F56_pivotWrites_a1.keep Kp58 nin0
  have F58_last_a1 := F56_last_a1.keep Kp58 nin0
  have F58_modCount_hm := F56_modCount_hm.keep Kp58 nin0
  have F58_table_hm := F56_table_hm.keep Kp58 nin0
  have F58_elements_dq := F56_elements_dq.keep Kp58 nin0
  have F58_head_dq := F56_head_dq.keep Kp58 nin0
  have F58_tail_dq := F56_tail_dq.keep Kp58 nin0
  have F58_modCount_r1 := F56_modCount_r1.keep Kp58 nin0
  have F58_size_r1 := F56_size_r1.keep Kp58 nin0
  have F58_modCount_r2 := F56_modCount_r2.keep Kp58 nin0
  have F58_size_r2 := F56_size_r2.keep Kp58 nin0
  have Ex58_a1 := Ex56_a1.keep Kp58
  have Ex58_hm := Ex56_hm.keep Kp58
  have Ex58_dq := Ex56_dq.keep Kp58
  have Ex58_r1 := Ex56_r1.keep Kp58
  have Ex58_r2 := Ex56_r2.keep Kp58
  have K58 := K56.trans Kp58 (all0)
  have Z58 := Nat.le_trans Z56 Kp58.1
  show own_Go p.tables e below K (T58.setTop (mkF m 92 #[.val (.ref a1), .val (.ref r1), .val (.ref r2), .val (.long j1), .second, .val (.long j2), .second, .val (.long j3), .second, .val (.ref it56), .unset, .unset, .unset] [(.ref it58)]))
  refine own_by (fun t k => XS.astore X58.here hx rfl (hb hby own_d11_92) rfl rfl (l' := #[.val (.ref a1), .val (.ref r1), .val (.ref r2), .val (.long j1), .second, .val (.long j2), .second, .val (.long j3), .second, .val (.ref it58), .unset, .unset, .unset]) rfl k) ?_
  show own_Go p.tables e below K (T58.setTop (mkF m 94 #[.val (.ref a1), .val (.ref r1), .val (.ref r2), .val (.long j1), .second, .val (.long j2), .second, .val (.long j3), .second, .val (.ref it58), .unset, .unset, .unset] []))
  refine own_by (fun t k => XS.aload X58.here hx rfl (hb hby own_d11_94) rfl rfl k) ?_
  show own_Go p.tables e below K (T58.setTop (mkF m 96 #[.val (.ref a1), .val (.ref r1), .val (.ref r2), .val (.long j1), .second, .val (.long j2), .second, .val (.long j3), .second, .val (.ref it58), .unset, .unset, .unset] [(.ref it58)]))
  obtain ⟨cq59, kq59, q59a, q59b, q59c⟩ := isOf hZ rfl Ip58.1
  obtain ⟨_, _, ⟨T59, L59, k59, n59⟩, -, X59, ⟨Lc59, hQ59, l59, y59, z59⟩, st59⟩ := X58.interfaceBack hx (xi := (⟨"java/util/Iterator", "hasNext", "()Z"⟩ : MethodName)) (y := (⟨"java/util/ArrayList$Itr", "hasNext", "()Z"⟩ : MethodName)) hown (mvT hZ (hw _ (List.mem_of_getElem? (i := 108) rfl))) (mvT hZ (hw _ (List.mem_of_getElem? (i := 109) rfl))) (mvT hZ (hw _ (List.mem_of_getElem? (i := 110) rfl))) (mvT hZ (hw _ (List.mem_of_getElem? (i := 111) rfl))) (mvT hZ (hw _ (List.mem_of_getElem? (i := 112) rfl))) (mvT hZ (hw _ (List.mem_of_getElem? (i := 113) rfl))) (mvT hZ (hw _ (List.mem_of_getElem? (i := 114) rfl))) (mvT hZ (hw _ (List.mem_of_getElem? (i := 115) rfl))) (by decide) (backOf (W := 0) (own_rmhas l Z aw hw [] it58 r2 T58.heap n0 Z58 Ip58 ⟨Ex58_r2, F58_modCount_r2, F58_size_r2⟩) hZ (hw _ (List.mem_of_getElem? (i := 116) rfl)) (hw _ (List.mem_of_getElem? (i := 94) rfl)) (by decide) (by decide)) q59a q59b q59c (g := (mkF m 96 #[.val (.ref a1), .val (.ref r1), .val (.ref r2), .val (.long j1), .second, .val (.long j2), .second, .val (.long j3), .second, .val (.ref it58), .unset, .unset, .unset] [(.ref it58)])) rfl (by rw [hml]; rfl) (Steps.refl _) (argsL := []) (rest := []) (lenOf own_pd5 rfl) rfl (by show 2 * 0 + _ ≤ _; exact Nat.le_of_eq rfl) (hb hby own_d11_96) (fun _ _ => ⟨rfl, rfl, (by decide : 2 + 0 ≤ _), (by decide : 8 + 0 ≤ _)⟩)
  dsimp only [Pt.U, Pt.locs, Pt.cells, Pt.slots] at X59 l59 y59 z59 st59 hQ59
  subst l59 y59 z59
  obtain ⟨rfl, N59q, e59⟩ := hQ59
  have N59 := Fr.app N58 N59q
  refine own_by (fun t k => st59.trans k) ?_
  show own_Go p.tables e below K (T59.setTop (mkF m 101 #[.val (.ref a1), .val (.ref r1), .val (.ref r2), .val (.long j1), .second, .val (.long j2), .second, .val (.long j3), .second, .val (.ref it58), .unset, .unset, .unset] [(.int (0 : Int32))]))
  have hc101 : (0 : Int32) = (0 : Int32) := by decide
  refine own_by (fun t k => XS.ifYes X59.here hx rfl (pc0 := 101) (pc' := 171) rfl (hb hby own_d11_101) rfl ((if0 _ _).trans (teq hc101).1) (by decide) (by decide) k) ?_
  show own_Go p.tables e below K (T59.setTop (mkF m 171 #[.val (.ref a1), .val (.ref r1), .val (.ref r2), .val (.long j1), .second, .val (.long j2), .second, .val (.long j3), .second, .val (.ref it58), .unset, .unset, .unset] []))
  refine own_by (fun t k => XS.aloadN X59.here hx rfl (hb hby own_d11_171) rfl rfl k) ?_
  show own_Go p.tables e below K (T59.setTop (mkF m 172 #[.val (.ref a1), .val (.ref r1), .val (.ref r2), .val (.long j1), .second, .val (.long j2), .second, .val (.long j3), .second, .val (.ref it58), .unset, .unset, .unset] [(.ref a1)]))
  refine own_by (fun t k => XS.aloadN X59.here hx rfl (hb hby own_d11_172) rfl rfl k) ?_
  show own_Go p.tables e below K (T59.setTop (mkF m 173 #[.val (.ref a1), .val (.ref r1), .val (.ref r2), .val (.long j1), .second, .val (.long j2), .second, .val (.long j3), .second, .val (.ref it58), .unset, .unset, .unset] [(.ref a1), (.ref a1)]))
  obtain ⟨T60, X60, e60, st60⟩ := getF X59 hx hZ hown (host := "") (Or.inl (hw _ (List.mem_of_getElem? (i := 76) rfl))) Via.refl e59 F58_last_a1 (g := (mkF m 173 #[.val (.ref a1), .val (.ref r1), .val (.ref r2), .val (.long j1), .second, .val (.long j2), .second, .val (.long j3), .second, .val (.ref it58), .unset, .unset, .unset] [(.ref a1), (.ref a1)])) rfl rfl (hb hby own_d11_173)
  refine own_by st60 ?_
  show own_Go p.tables e below K (T60.setTop (mkF m 176 #[.val (.ref a1), .val (.ref r1), .val (.ref r2), .val (.long j1), .second, .val (.long j2), .second, .val (.long j3), .second, .val (.ref it58), .unset, .unset, .unset] [(.long la), (.ref a1)]))
  refine own_by (fun t k => XS.lloadN X60.here hx rfl (hb hby own_d11_176) rfl k) ?_
  show own_Go p.tables e below K (T60.setTop (mkF m 177 #[.val (.ref a1), .val (.ref r1), .val (.ref r2), .val (.long j1), .second, .val (.long j2), .second, .val (.long j3), .second, .val (.ref it58), .unset, .unset, .unset] [(.long j1), (.long la), (.ref a1)]))
  obtain ⟨_, _, ⟨T61, L61, k61, n61⟩, -, X61, ⟨Lc61, hQ61, l61, y61, z61⟩, st61⟩ := Jvm.LawKit.callS X60 hx (y := (⟨"java/lang/Math", "max", "(JJ)J"⟩ : MethodName)) hown (mvT hZ (hw _ (List.mem_of_getElem? (i := 121) rfl))) (mvT hZ (hw _ (List.mem_of_getElem? (i := 2) rfl))) (mvT hZ (hw _ (List.mem_of_getElem? (i := 3) rfl))) (mvT hZ (hw _ (List.mem_of_getElem? (i := 4) rfl))) (by decide) (backOf (W := 1) (own_rmmx l Z aw hw [] la j1 T58.heap n0 Z58) hZ (hw _ (List.mem_of_getElem? (i := 4) rfl)) (hw _ (List.mem_of_getElem? (i := 3) rfl)) (by decide) (by decide)) (g := (mkF m 177 #[.val (.ref a1), .val (.ref r1), .val (.ref r2), .val (.long j1), .second, .val (.long j2), .second, .val (.long j3), .second, .val (.ref it58), .unset, .unset, .unset] [(.long j1), (.long la), (.ref a1)])) rfl (by rw [hml]; rfl) (argsL := [(.long la), (.long j1)]) (rest := [(.ref a1)]) (lenOf own_pd6 rfl) rfl (by show 2 * 0 + _ ≤ _; exact Nat.le_of_eq rfl) (hb hby own_d11_177) (fun _ _ => ⟨rfl, e60, (by decide : 2 + 0 ≤ _), (by decide : 8 + 0 ≤ _)⟩)
  dsimp only [Pt.U, Pt.locs, Pt.cells, Pt.slots] at X61 l61 y61 z61 st61 hQ61
  subst l61 y61 z61
  obtain ⟨rfl, N61q, e61⟩ := hQ61
  have N61 := Fr.app N59 N61q
  refine own_by st61 ?_
  show own_Go p.tables e below K (T61.setTop (mkF m 180 #[.val (.ref a1), .val (.ref r1), .val (.ref r2), .val (.long j1), .second, .val (.long j2), .second, .val (.long j3), .second, .val (.ref it58), .unset, .unset, .unset] [(.long (own_mx la j1)), (.ref a1)]))
  obtain ⟨T62, h62, X62, e62, W62, st62⟩ := putF X61 hx hZ hown (host := "") (Or.inl (hw _ (List.mem_of_getElem? (i := 76) rfl))) Via.refl e61 F58_last_a1 Ex58_a1 (Or.inl (hw _ (List.mem_of_getElem? (i := 77) rfl))) (hw _ (List.mem_of_getElem? (i := 33) rfl)) (ty := .long) (by decide) rfl rfl (g := (mkF m 180 #[.val (.ref a1), .val (.ref r1), .val (.ref r2), .val (.long j1), .second, .val (.long j2), .second, .val (.long j3), .second, .val (.ref it58), .unset, .unset, .unset] [(.long (own_mx la j1)), (.ref a1)])) rfl rfl (hb hby own_d11_180)
  refine own_by st62 ?_
  have F62_tables_a1 := F58_tables_a1.other W62 (Or.inr (slot_ne (Or.inr (hw _ (List.mem_of_getElem? (i := 56) rfl))) (Or.inl (hw _ (List.mem_of_getElem? (i := 77) rfl))) (by decide) (t := (.object "java/util/Map")) (t' := .long) (by decide) (by decide)))
  have F62_pivots_a1 := F58_pivots_a1.other W62 (Or.inr (slot_ne (Or.inr (hw _ (List.mem_of_getElem? (i := 70) rfl))) (Or.inl (hw _ (List.mem_of_getElem? (i := 77) rfl))) (by decide) (t := (.object "java/util/Deque")) (t' := .long) (by decide) (by decide)))
  have F62_pivotWrites_a1 := F58_pivotWrites_a1.other W62 (Or.inr (slot_ne (Or.inl (hw _ (List.mem_of_getElem? (i := 162) rfl))) (Or.inl (hw _ (List.mem_of_getElem? (i := 77) rfl))) (by decide) (t := .long) (t' := .long) (by decide) (by decide)))
  have F62_last_a1 := F58_last_a1.same W62
  have F62_modCount_hm := F58_modCount_hm.other W62 (Or.inl (Exa.ne Ex58_hm Ex58_a1 (by decide)))
  have F62_table_hm := F58_table_hm.other W62 (Or.inl (Exa.ne Ex58_hm Ex58_a1 (by decide)))
  have F62_elements_dq := F58_elements_dq.other W62 (Or.inl (Exa.ne Ex58_dq Ex58_a1 (by decide)))
  have F62_head_dq := F58_head_dq.other W62 (Or.inl (Exa.ne Ex58_dq Ex58_a1 (by decide)))
  have F62_tail_dq := F58_tail_dq.other W62 (Or.inl (Exa.ne Ex58_dq Ex58_a1 (by decide)))
  have F62_modCount_r1 := F58_modCount_r1.other W62 (Or.inl (Exa.ne Ex58_r1 Ex58_a1 (by decide)))
  have F62_size_r1 := F58_size_r1.other W62 (Or.inl (Exa.ne Ex58_r1 Ex58_a1 (by decide)))
  have F62_modCount_r2 := F58_modCount_r2.other W62 (Or.inl (Exa.ne Ex58_r2 Ex58_a1 (by decide)))
  have F62_size_r2 := F58_size_r2.other W62 (Or.inl (Exa.ne Ex58_r2 Ex58_a1 (by decide)))
  have xa62_el := xa58_el.other W62 (Ne.symm (own_Ar.ne Ex58_a1 xa58_el (hw _ (List.mem_of_getElem? (i := 33) rfl))))
  have Ex62_a1 := Ex58_a1.wr W62
  have Ex62_hm := Ex58_hm.wr W62
  have Ex62_dq := Ex58_dq.wr W62
  have Ex62_r1 := Ex58_r1.wr W62
  have Ex62_r2 := Ex58_r2.wr W62
  have K62 := K58.wr W62 (Or.inl (by simp))
  have Z62 := Nat.le_trans Z58 (Keep.of_wr W62).1
  have N62 := Fr.snoc X62 N61 ga
  show own_Go p.tables e below K (T62.setTop (mkF m 183 #[.val (.ref a1), .val (.ref r1), .val (.ref r2), .val (.long j1), .second, .val (.long j2), .second, .val (.long j3), .second, .val (.ref it58), .unset, .unset, .unset] []))
  refine own_by (fun t k => XS.lload X62.here hx rfl (hb hby own_d11_183) rfl k) ?_
  show own_Go p.tables e below K (T62.setTop (mkF m 185 #[.val (.ref a1), .val (.ref r1), .val (.ref r2), .val (.long j1), .second, .val (.long j2), .second, .val (.long j3), .second, .val (.ref it58), .unset, .unset, .unset] [(.long j3)]))
  refine own_by (fun t k => X62.ldc2Long hx hown (mvT hZ (hw _ (List.mem_of_getElem? (i := 122) rfl))) (g := (mkF m 185 #[.val (.ref a1), .val (.ref r1), .val (.ref r2), .val (.long j1), .second, .val (.long j2), .second, .val (.long j3), .second, .val (.ref it58), .unset, .unset, .unset] [(.long j3)])) rfl (hb hby own_d11_185) _ k) ?_
  show own_Go p.tables e below K (T62.setTop (mkF m 188 #[.val (.ref a1), .val (.ref r1), .val (.ref r2), .val (.long j1), .second, .val (.long j2), .second, .val (.long j3), .second, .val (.ref it58), .unset, .unset, .unset] [(.long (9223372036854775807 : Int64)), (.long j3)]))
  refine own_by (fun t k => XS.lcmp X62.here hx rfl (hb hby own_d11_188) rfl k) ?_
  show own_Go p.tables e below K (T62.setTop (mkF m 189 #[.val (.ref a1), .val (.ref r1), .val (.ref r2), .val (.long j1), .second, .val (.long j2), .second, .val (.long j3), .second, .val (.ref it58), .unset, .unset, .unset] [(.int (lcmpW j3 (9223372036854775807 : Int64)))]))
  by_cases hc189 : j3 = (9223372036854775807 : Int64)
  · refine own_by (fun t k => XS.ifYes X62.here hx rfl (pc0 := 189) (pc' := 228) rfl (hb hby own_d11_189) rfl (own_leq hc189).1 (by decide) (by decide) k) ?_
    show own_Go p.tables e below K (T62.setTop (mkF m 228 #[.val (.ref a1), .val (.ref r1), .val (.ref r2), .val (.long j1), .second, .val (.long j2), .second, .val (.long j3), .second, .val (.ref it58), .unset, .unset, .unset] []))
    refine own_by (fun t k => XS.aloadN X62.here hx rfl (hb hby own_d11_228) rfl rfl k) ?_
    show own_Go p.tables e below K (T62.setTop (mkF m 229 #[.val (.ref a1), .val (.ref r1), .val (.ref r2), .val (.long j1), .second, .val (.long j2), .second, .val (.long j3), .second, .val (.ref it58), .unset, .unset, .unset] [(.ref a1)]))
    obtain ⟨T63, X63, e63, st63⟩ := getF X62 hx hZ hown (host := "") (Or.inl (hw _ (List.mem_of_getElem? (i := 161) rfl))) Via.refl e62 F62_pivotWrites_a1 (g := (mkF m 229 #[.val (.ref a1), .val (.ref r1), .val (.ref r2), .val (.long j1), .second, .val (.long j2), .second, .val (.long j3), .second, .val (.ref it58), .unset, .unset, .unset] [(.ref a1)])) rfl rfl (hb hby own_d11_229)
    refine own_by st63 ?_
    show own_Go p.tables e below K (T63.setTop (mkF m 232 #[.val (.ref a1), .val (.ref r1), .val (.ref r2), .val (.long j1), .second, .val (.long j2), .second, .val (.long j3), .second, .val (.ref it58), .unset, .unset, .unset] [(.long (0 : Int64))]))
    refine own_by (fun t k => X63.ldc2Long hx hown (mvT hZ (hw _ (List.mem_of_getElem? (i := 172) rfl))) (g := (mkF m 232 #[.val (.ref a1), .val (.ref r1), .val (.ref r2), .val (.long j1), .second, .val (.long j2), .second, .val (.long j3), .second, .val (.ref it58), .unset, .unset, .unset] [(.long (0 : Int64))])) rfl (hb hby own_d11_232) _ k) ?_
    show own_Go p.tables e below K (T63.setTop (mkF m 235 #[.val (.ref a1), .val (.ref r1), .val (.ref r2), .val (.long j1), .second, .val (.long j2), .second, .val (.long j3), .second, .val (.ref it58), .unset, .unset, .unset] [(.long (1000 : Int64)), (.long (0 : Int64))]))
    refine own_by (fun t k => XS.lcmp X63.here hx rfl (hb hby own_d11_235) rfl k) ?_
    show own_Go p.tables e below K (T63.setTop (mkF m 236 #[.val (.ref a1), .val (.ref r1), .val (.ref r2), .val (.long j1), .second, .val (.long j2), .second, .val (.long j3), .second, .val (.ref it58), .unset, .unset, .unset] [(.int (lcmpW (0 : Int64) (1000 : Int64)))]))
    have hc236 : ¬ ((1000 : Int64) < (0 : Int64)) := by decide
    refine own_by (fun t k => XS.ifYes X63.here hx rfl (pc0 := 236) (pc' := 350) rfl (hb hby own_d11_236) rfl (own_lle hc236).2 (by decide) (by decide) k) ?_
    show own_Go p.tables e below K (T63.setTop (mkF m 350 #[.val (.ref a1), .val (.ref r1), .val (.ref r2), .val (.long j1), .second, .val (.long j2), .second, .val (.long j3), .second, .val (.ref it58), .unset, .unset, .unset] []))
    exact own_retV X63 hx hret (hb hby own_d11_350) (hK none X63 (fun _ => rfl) (by rw [e63]; exact ⟨rfl, N62, K62, Or.inl ⟨Ex62_a1, F62_tables_a1, F62_pivots_a1, F62_pivotWrites_a1, F62_last_a1, ⟨Ex62_hm, F62_modCount_hm, F62_table_hm⟩, ⟨Ex62_dq, F62_elements_dq, F62_head_dq, F62_tail_dq, xa62_el, B0.2.2.2.2.2.2.2.2.2.2.2⟩⟩⟩) (by decide) (by decide))
  · refine own_by (fun t k => XS.ifNo X62.here hx rfl (hb hby own_d11_189) rfl (own_lne hc189).1 k) ?_
    show own_Go p.tables e below K (T62.setTop (mkF m 192 #[.val (.ref a1), .val (.ref r1), .val (.ref r2), .val (.long j1), .second, .val (.long j2), .second, .val (.long j3), .second, .val (.ref it58), .unset, .unset, .unset] []))
    refine own_by (fun t k => XS.aloadN X62.here hx rfl (hb hby own_d11_192) rfl rfl k) ?_
    show own_Go p.tables e below K (T62.setTop (mkF m 193 #[.val (.ref a1), .val (.ref r1), .val (.ref r2), .val (.long j1), .second, .val (.long j2), .second, .val (.long j3), .second, .val (.ref it58), .unset, .unset, .unset] [(.ref a1)]))
    obtain ⟨T64, X64, e64, st64⟩ := getF X62 hx hZ hown (host := "") (Or.inl (hw _ (List.mem_of_getElem? (i := 69) rfl))) Via.refl e62 F62_pivots_a1 (g := (mkF m 193 #[.val (.ref a1), .val (.ref r1), .val (.ref r2), .val (.long j1), .second, .val (.long j2), .second, .val (.long j3), .second, .val (.ref it58), .unset, .unset, .unset] [(.ref a1)])) rfl rfl (hb hby own_d11_193)
    refine own_by st64 ?_
    show own_Go p.tables e below K (T64.setTop (mkF m 196 #[.val (.ref a1), .val (.ref r1), .val (.ref r2), .val (.long j1), .second, .val (.long j2), .second, .val (.long j3), .second, .val (.ref it58), .unset, .unset, .unset] [(.ref dq)]))
    obtain ⟨T65, h65, X65, e65, E65, A65, D65, -, st65⟩ := newO X64 hx hZ hown (hw _ (List.mem_of_getElem? (i := 123) rfl)) (hw _ (List.mem_of_getElem? (i := 124) rfl)) (hw _ (List.mem_of_getElem? (i := 125) rfl)) e64 (g := (mkF m 196 #[.val (.ref a1), .val (.ref r1), .val (.ref r2), .val (.long j1), .second, .val (.long j2), .second, .val (.long j3), .second, .val (.ref it58), .unset, .unset, .unset] [(.ref dq)])) rfl (hb hby own_d11_196) (by decide) (by decide)
    obtain ⟨b65, g65⟩ : ∃ z, z = h62.size := ⟨_, rfl⟩
    rw [← g65] at A65 D65 st65
    refine own_by st65 ?_
    have gn_b65 : n0 ≤ b65 := Nat.le_trans Z62 (Nat.le_of_eq g65.symm)
    have ne_el_b65 : el ≠ b65 := Nat.ne_of_lt (Nat.lt_of_lt_of_le xa62_el.lt (Nat.le_of_eq g65.symm))
    have sz_b65 : h0.size ≤ b65 := Nat.le_trans K62.1 (Nat.le_of_eq g65.symm)
    have ne_a1_b65 : a1 ≠ b65 := Nat.ne_of_lt (Nat.lt_of_lt_of_le Ex62_a1.lt (Nat.le_of_eq g65.symm))
    have ne_hm_b65 : hm ≠ b65 := Nat.ne_of_lt (Nat.lt_of_lt_of_le Ex62_hm.lt (Nat.le_of_eq g65.symm))
    have ne_dq_b65 : dq ≠ b65 := Nat.ne_of_lt (Nat.lt_of_lt_of_le Ex62_dq.lt (Nat.le_of_eq g65.symm))
    have ne_r1_b65 : r1 ≠ b65 := Nat.ne_of_lt (Nat.lt_of_lt_of_le Ex62_r1.lt (Nat.le_of_eq g65.symm))
    have ne_r2_b65 : r2 ≠ b65 := Nat.ne_of_lt (Nat.lt_of_lt_of_le Ex62_r2.lt (Nat.le_of_eq g65.symm))
    have F65_tables_a1 := F62_tables_a1.ext E65
    have F65_pivots_a1 := F62_pivots_a1.ext E65
    have F65_pivotWrites_a1 := F62_pivotWrites_a1.ext E65
    have F65_last_a1 := F62_last_a1.ext E65
    have F65_modCount_hm := F62_modCount_hm.ext E65
    have F65_table_hm := F62_table_hm.ext E65
    have F65_elements_dq := F62_elements_dq.ext E65
    have F65_head_dq := F62_head_dq.ext E65
    have F65_tail_dq := F62_tail_dq.ext E65
    have F65_modCount_r1 := F62_modCount_r1.ext E65
    have F65_size_r1 := F62_size_r1.ext E65
    have F65_modCount_r2 := F62_modCount_r2.ext E65
    have F65_size_r2 := F62_size_r2.ext E65
    have Ex65_a1 := Ex62_a1.ext E65
    have Ex65_hm := Ex62_hm.ext E65
    have Ex65_dq := Ex62_dq.ext E65
    have Ex65_r1 := Ex62_r1.ext E65
    have Ex65_r2 := Ex62_r2.ext E65
    have xa65_el := xa62_el.ext E65
    have K65 := K62.ext E65
    have Z65 := Nat.le_trans Z62 E65.1
    have F65_writes_b65 : Fld Z h65 b65 "com/example/predicate/predicate/engine/FoldedTransactions$Pivot" "writes" "Ljava/util/List;" .null := D65 (Or.inr (hw _ (List.mem_of_getElem? (i := 136) rfl))) (ty := (.object "java/util/List")) (by decide)
    have F65_pivotOut_b65 : Fld Z h65 b65 "com/example/predicate/predicate/engine/FoldedTransactions$Pivot" "pivotOut" "J" (.long (0 : Int64)) := D65 (Or.inr (hw _ (List.mem_of_getElem? (i := 138) rfl))) (ty := .long) (by decide)
    show own_Go p.tables e below K (T65.setTop (mkF m 199 #[.val (.ref a1), .val (.ref r1), .val (.ref r2), .val (.long j1), .second, .val (.long j2), .second, .val (.long j3), .second, .val (.ref it58), .unset, .unset, .unset] [(.ref b65), (.ref dq)]))
    refine own_by (fun t k => XS.dup X65.here hx rfl (hb hby own_d11_199) rfl rfl k) ?_
    show own_Go p.tables e below K (T65.setTop (mkF m 200 #[.val (.ref a1), .val (.ref r1), .val (.ref r2), .val (.long j1), .second, .val (.long j2), .second, .val (.long j3), .second, .val (.ref it58), .unset, .unset, .unset] [(.ref b65), (.ref b65), (.ref dq)]))
    refine own_by (fun t k => XS.aloadN X65.here hx rfl (hb hby own_d11_200) rfl rfl k) ?_
    show own_Go p.tables e below K (T65.setTop (mkF m 201 #[.val (.ref a1), .val (.ref r1), .val (.ref r2), .val (.long j1), .second, .val (.long j2), .second, .val (.long j3), .second, .val (.ref it58), .unset, .unset, .unset] [(.ref r2), (.ref b65), (.ref b65), (.ref dq)]))
    refine own_by (fun t k => XS.lload X65.here hx rfl (hb hby own_d11_201) rfl k) ?_
    show own_Go p.tables e below K (T65.setTop (mkF m 203 #[.val (.ref a1), .val (.ref r1), .val (.ref r2), .val (.long j1), .second, .val (.long j2), .second, .val (.long j3), .second, .val (.ref it58), .unset, .unset, .unset] [(.long j3), (.ref r2), (.ref b65), (.ref b65), (.ref dq)]))
    obtain ⟨_, _, ⟨T66, L66, k66, n66⟩, -, X66, ⟨Lc66, hQ66, l66, y66, z66⟩, st66⟩ := own_specialRef X65 hx hZ (y := (⟨"com/example/predicate/predicate/engine/FoldedTransactions$Pivot", "<init>", "(Ljava/util/List;J)V"⟩ : MethodName)) rfl hown (hw _ (List.mem_of_getElem? (i := 126) rfl)) (mvT hZ (hw _ (List.mem_of_getElem? (i := 127) rfl))) (mvT hZ (hw _ (List.mem_of_getElem? (i := 128) rfl))) (by decide) (backOf (W := 2) (own_rmpvn l Z aw hw [] b65 r2 j3 h65 n0 Z65 A65 gn_b65 F65_writes_b65 F65_pivotOut_b65) hZ (hw _ (List.mem_of_getElem? (i := 128) rfl)) (hw _ (List.mem_of_getElem? (i := 125) rfl)) (by decide) (by decide)) (g := (mkF m 203 #[.val (.ref a1), .val (.ref r1), .val (.ref r2), .val (.long j1), .second, .val (.long j2), .second, .val (.long j3), .second, .val (.ref it58), .unset, .unset, .unset] [(.long j3), (.ref r2), (.ref b65), (.ref b65), (.ref dq)])) rfl (by rw [hml]; rfl) (a := b65) (argsL := [(.ref r2), (.long j3)]) (rest := [(.ref b65), (.ref dq)]) (lenOf own_pd7 rfl) rfl (by show 2 * 0 + _ ≤ _; exact Nat.le_of_eq rfl) (hb hby own_d11_203) (fun _ _ => ⟨rfl, e65, (by decide : 3 + 0 ≤ _), (by decide : 10 + 0 ≤ _)⟩)
    dsimp only [Pt.U, Pt.locs, Pt.cells, Pt.slots] at X66 l66 y66 z66 st66 hQ66
    subst l66 y66 z66
    obtain ⟨rfl, N66q, Kp66, Xp66⟩ := hQ66
    have N66 := Fr.app N62 N66q
    refine own_by (fun t k => st66.trans k) ?_
    have xa66_el := xa65_el.keep Kp66 (ninS ne_el_b65 nin0)
    have F66_tables_a1 := F65_tables_a1.keep Kp66 (ninS ne_a1_b65 nin0)
    have F66_pivots_a1 := F65_pivots_a1.keep Kp66 (ninS ne_a1_b65 nin0)
    have F66_pivotWrites_a1 := F65_pivotWrites_a1.keep Kp66 (ninS ne_a1_b65 nin0)
    have F66_last_a1 := F65_last_a1.keep Kp66 (ninS ne_a1_b65 nin0)
    have F66_modCount_hm := F65_modCount_hm.keep Kp66 (ninS ne_hm_b65 nin0)
    have F66_table_hm := F65_table_hm.keep Kp66 (ninS ne_hm_b65 nin0)
    have F66_elements_dq := F65_elements_dq.keep Kp66 (ninS ne_dq_b65 nin0)
    have F66_head_dq := F65_head_dq.keep Kp66 (ninS ne_dq_b65 nin0)
    have F66_tail_dq := F65_tail_dq.keep Kp66 (ninS ne_dq_b65 nin0)
    have F66_modCount_r1 := F65_modCount_r1.keep Kp66 (ninS ne_r1_b65 nin0)
    have F66_size_r1 := F65_size_r1.keep Kp66 (ninS ne_r1_b65 nin0)
    have F66_modCount_r2 := F65_modCount_r2.keep Kp66 (ninS ne_r2_b65 nin0)
    have F66_size_r2 := F65_size_r2.keep Kp66 (ninS ne_r2_b65 nin0)
    have Ex66_a1 := Ex65_a1.keep Kp66
    have Ex66_hm := Ex65_hm.keep Kp66
    have Ex66_dq := Ex65_dq.keep Kp66
    have Ex66_r1 := Ex65_r1.keep Kp66
    have Ex66_r2 := Ex65_r2.keep Kp66
    have Ex66_b65 := A65.keep Kp66
    have K66 := K65.trans Kp66 (allS (Or.inr sz_b65) (all0))
    have Z66 := Nat.le_trans Z65 Kp66.1
    show own_Go p.tables e below K (T66.setTop (mkF m 206 #[.val (.ref a1), .val (.ref r1), .val (.ref r2), .val (.long j1), .second, .val (.long j2), .second, .val (.long j3), .second, .val (.ref it58), .unset, .unset, .unset] [(.ref b65), (.ref dq)]))
    obtain ⟨cq67, kq67, q67a, q67b, q67c⟩ := isOf hZ rfl Ex66_dq
    obtain ⟨_, _, ⟨T67, L67, k67, n67⟩, -, X67, ⟨Lc67, hQ67, l67, y67, z67⟩, st67⟩ := X66.interfaceBack hx (xi := (⟨"java/util/Deque", "add", "(Ljava/lang/Object;)Z"⟩ : MethodName)) (y := (⟨"java/util/ArrayDeque", "add", "(Ljava/lang/Object;)Z"⟩ : MethodName)) hown (mvT hZ (hw _ (List.mem_of_getElem? (i := 139) rfl))) (mvT hZ (hw _ (List.mem_of_getElem? (i := 140) rfl))) (mvT hZ (hw _ (List.mem_of_getElem? (i := 141) rfl))) (mvT hZ (hw _ (List.mem_of_getElem? (i := 142) rfl))) (mvT hZ (hw _ (List.mem_of_getElem? (i := 143) rfl))) (mvT hZ (hw _ (List.mem_of_getElem? (i := 144) rfl))) (mvT hZ (hw _ (List.mem_of_getElem? (i := 145) rfl))) (mvT hZ (hw _ (List.mem_of_getElem? (i := 146) rfl))) (by decide) (backOf (W := 0) (own_rmadd0 l Z aw hw [] dq b65 el k T66.heap n0 Z66 ⟨Ex66_dq, F66_elements_dq, F66_head_dq, F66_tail_dq, xa66_el, B0.2.2.2.2.2.2.2.2.2.2.2⟩ (Ins.of_exa Xp66 (hw _ (List.mem_of_getElem? (i := 155) rfl))) gd ge) hZ (hw _ (List.mem_of_getElem? (i := 147) rfl)) (hw _ (List.mem_of_getElem? (i := 59) rfl)) (by decide) (by decide)) q67a q67b q67c (g := (mkF m 206 #[.val (.ref a1), .val (.ref r1), .val (.ref r2), .val (.long j1), .second, .val (.long j2), .second, .val (.long j3), .second, .val (.ref it58), .unset, .unset, .unset] [(.ref b65), (.ref dq)])) rfl (by rw [hml]; rfl) (Steps.refl _) (argsL := [(.ref b65)]) (rest := []) (lenOf own_pd8 rfl) rfl (by show 2 * 0 + _ ≤ _; exact Nat.le_of_eq rfl) (hb hby own_d11_206) (fun _ _ => ⟨rfl, rfl, (by decide : 3 + 0 ≤ _), (by decide : 10 + 0 ≤ _)⟩)
    dsimp only [Pt.U, Pt.locs, Pt.cells, Pt.slots] at X67 l67 y67 z67 st67 hQ67
    subst l67 y67 z67
    obtain ⟨rfl, N67q, Kp67, Bp67⟩ := hQ67
    have N67 := Fr.app N66 N67q
    refine own_by (fun t k => st67.trans k) ?_
    have F67_tables_a1 := F66_tables_a1.keep Kp67 (ninS (Exa.ne Ex66_a1 Ex66_dq (by decide)) (ninS (own_Ar.ne Ex66_a1 xa66_el (hw _ (List.mem_of_getElem? (i := 33) rfl))) nin0))
    have F67_pivots_a1 := F66_pivots_a1.keep Kp67 (ninS (Exa.ne Ex66_a1 Ex66_dq (by decide)) (ninS (own_Ar.ne Ex66_a1 xa66_el (hw _ (List.mem_of_getElem? (i := 33) rfl))) nin0))
    have F67_pivotWrites_a1 := F66_pivotWrites_a1.keep Kp67 (ninS (Exa.ne Ex66_a1 Ex66_dq (by decide)) (ninS (own_Ar.ne Ex66_a1 xa66_el (hw _ (List.mem_of_getElem? (i := 33) rfl))) nin0))
    have F67_last_a1 := F66_last_a1.keep Kp67 (ninS (Exa.ne Ex66_a1 Ex66_dq (by decide)) (ninS (own_Ar.ne Ex66_a1 xa66_el (hw _ (List.mem_of_getElem? (i := 33) rfl))) nin0))
    have F67_modCount_hm := F66_modCount_hm.keep Kp67 (ninS (Exa.ne Ex66_hm Ex66_dq (by decide)) (ninS (own_Ar.ne Ex66_hm xa66_el (hw _ (List.mem_of_getElem? (i := 40) rfl))) nin0))
    have F67_table_hm := F66_table_hm.keep Kp67 (ninS (Exa.ne Ex66_hm Ex66_dq (by decide)) (ninS (own_Ar.ne Ex66_hm xa66_el (hw _ (List.mem_of_getElem? (i := 40) rfl))) nin0))
    have F67_modCount_r1 := F66_modCount_r1.keep Kp67 (ninS (Exa.ne Ex66_r1 Ex66_dq (by decide)) (ninS (own_Ar.ne Ex66_r1 xa66_el (hw _ (List.mem_of_getElem? (i := 7) rfl))) nin0))
    have F67_size_r1 := F66_size_r1.keep Kp67 (ninS (Exa.ne Ex66_r1 Ex66_dq (by decide)) (ninS (own_Ar.ne Ex66_r1 xa66_el (hw _ (List.mem_of_getElem? (i := 7) rfl))) nin0))
    have F67_modCount_r2 := F66_modCount_r2.keep Kp67 (ninS (Exa.ne Ex66_r2 Ex66_dq (by decide)) (ninS (own_Ar.ne Ex66_r2 xa66_el (hw _ (List.mem_of_getElem? (i := 7) rfl))) nin0))
    have F67_size_r2 := F66_size_r2.keep Kp67 (ninS (Exa.ne Ex66_r2 Ex66_dq (by decide)) (ninS (own_Ar.ne Ex66_r2 xa66_el (hw _ (List.mem_of_getElem? (i := 7) rfl))) nin0))
    have Ex67_a1 := Ex66_a1.keep Kp67
    have Ex67_hm := Ex66_hm.keep Kp67
    have Ex67_dq := Ex66_dq.keep Kp67
    have Ex67_r1 := Ex66_r1.keep Kp67
    have Ex67_r2 := Ex66_r2.keep Kp67
    have Ex67_b65 := Xp66.keep Kp67
    have K67 := K66.trans Kp67 (allS (Or.inl (by simp)) (allS (Or.inl (by simp)) (all0)))
    have Z67 := Nat.le_trans Z66 Kp67.1
    show own_Go p.tables e below K (T67.setTop (mkF m 211 #[.val (.ref a1), .val (.ref r1), .val (.ref r2), .val (.long j1), .second, .val (.long j2), .second, .val (.long j3), .second, .val (.ref it58), .unset, .unset, .unset] [(.int (1 : Int32))]))
    refine own_by (fun t k => XS.pop X67.here hx rfl (hb hby own_d11_211) rfl rfl k) ?_
    show own_Go p.tables e below K (T67.setTop (mkF m 212 #[.val (.ref a1), .val (.ref r1), .val (.ref r2), .val (.long j1), .second, .val (.long j2), .second, .val (.long j3), .second, .val (.ref it58), .unset, .unset, .unset] []))
    refine own_by (fun t k => XS.aloadN X67.here hx rfl (hb hby own_d11_212) rfl rfl k) ?_
    show own_Go p.tables e below K (T67.setTop (mkF m 213 #[.val (.ref a1), .val (.ref r1), .val (.ref r2), .val (.long j1), .second, .val (.long j2), .second, .val (.long j3), .second, .val (.ref it58), .unset, .unset, .unset] [(.ref a1)]))
    refine own_by (fun t k => XS.dup X67.here hx rfl (hb hby own_d11_213) rfl rfl k) ?_
    show own_Go p.tables e below K (T67.setTop (mkF m 214 #[.val (.ref a1), .val (.ref r1), .val (.ref r2), .val (.long j1), .second, .val (.long j2), .second, .val (.long j3), .second, .val (.ref it58), .unset, .unset, .unset] [(.ref a1), (.ref a1)]))
    obtain ⟨T68, X68, e68, st68⟩ := getF X67 hx hZ hown (host := "") (Or.inl (hw _ (List.mem_of_getElem? (i := 161) rfl))) Via.refl rfl F67_pivotWrites_a1 (g := (mkF m 214 #[.val (.ref a1), .val (.ref r1), .val (.ref r2), .val (.long j1), .second, .val (.long j2), .second, .val (.long j3), .second, .val (.ref it58), .unset, .unset, .unset] [(.ref a1), (.ref a1)])) rfl rfl (hb hby own_d11_214)
    refine own_by st68 ?_
    show own_Go p.tables e below K (T68.setTop (mkF m 217 #[.val (.ref a1), .val (.ref r1), .val (.ref r2), .val (.long j1), .second, .val (.long j2), .second, .val (.long j3), .second, .val (.ref it58), .unset, .unset, .unset] [(.long (0 : Int64)), (.ref a1)]))
    refine own_by (fun t k => XS.aloadN X68.here hx rfl (hb hby own_d11_217) rfl rfl k) ?_
    show own_Go p.tables e below K (T68.setTop (mkF m 218 #[.val (.ref a1), .val (.ref r1), .val (.ref r2), .val (.long j1), .second, .val (.long j2), .second, .val (.long j3), .second, .val (.ref it58), .unset, .unset, .unset] [(.ref r2), (.long (0 : Int64)), (.ref a1)]))
    obtain ⟨cq69, kq69, q69a, q69b, q69c⟩ := isOf hZ e68 Ex67_r2
    obtain ⟨_, _, ⟨T69, L69, k69, n69⟩, -, X69, ⟨Lc69, hQ69, l69, y69, z69⟩, st69⟩ := X68.interfaceBack hx (xi := (⟨"java/util/List", "size", "()I"⟩ : MethodName)) (y := (⟨"java/util/ArrayList", "size", "()I"⟩ : MethodName)) hown (mvT hZ (hw _ (List.mem_of_getElem? (i := 163) rfl))) (mvT hZ (hw _ (List.mem_of_getElem? (i := 164) rfl))) (mvT hZ (hw _ (List.mem_of_getElem? (i := 165) rfl))) (mvT hZ (hw _ (List.mem_of_getElem? (i := 166) rfl))) (mvT hZ (hw _ (List.mem_of_getElem? (i := 167) rfl))) (mvT hZ (hw _ (List.mem_of_getElem? (i := 168) rfl))) (mvT hZ (hw _ (List.mem_of_getElem? (i := 169) rfl))) (mvT hZ (hw _ (List.mem_of_getElem? (i := 90) rfl))) (by decide) (backOf (W := 3) (own_rmsiz l Z aw hw [] r2 T67.heap n0 Z67 ⟨Ex67_r2, F67_modCount_r2, F67_size_r2⟩) hZ (hw _ (List.mem_of_getElem? (i := 170) rfl)) (hw _ (List.mem_of_getElem? (i := 8) rfl)) (by decide) (by decide)) q69a q69b q69c (g := (mkF m 218 #[.val (.ref a1), .val (.ref r1), .val (.ref r2), .val (.long j1), .second, .val (.long j2), .second, .val (.long j3), .second, .val (.ref it58), .unset, .unset, .unset] [(.ref r2), (.long (0 : Int64)), (.ref a1)])) rfl (by rw [hml]; rfl) (Steps.refl _) (argsL := []) (rest := [(.long (0 : Int64)), (.ref a1)]) (lenOf own_pd9 rfl) rfl (by show 2 * 0 + _ ≤ _; exact Nat.le_of_eq rfl) (hb hby own_d11_218) (fun _ _ => ⟨rfl, e68, (by decide : 3 + 0 ≤ _), (by decide : 10 + 0 ≤ _)⟩)
    dsimp only [Pt.U, Pt.locs, Pt.cells, Pt.slots] at X69 l69 y69 z69 st69 hQ69
    subst l69 y69 z69
    obtain ⟨rfl, N69q, e69⟩ := hQ69
    have N69 := Fr.app N67 N69q
    refine own_by (fun t k => st69.trans k) ?_
    show own_Go p.tables e below K (T69.setTop (mkF m 223 #[.val (.ref a1), .val (.ref r1), .val (.ref r2), .val (.long j1), .second, .val (.long j2), .second, .val (.long j3), .second, .val (.ref it58), .unset, .unset, .unset] [(.int (0 : Int32)), (.long (0 : Int64)), (.ref a1)]))
    refine own_by (fun t k => XS.i2l X69.here hx rfl (hb hby own_d11_223) rfl k) ?_
    show own_Go p.tables e below K (T69.setTop (mkF m 224 #[.val (.ref a1), .val (.ref r1), .val (.ref r2), .val (.long j1), .second, .val (.long j2), .second, .val (.long j3), .second, .val (.ref it58), .unset, .unset, .unset] [(.long ((0 : Int32).toInt64)), (.long (0 : Int64)), (.ref a1)]))
    refine own_by (fun t k => XS.ladd X69.here hx rfl (hb hby own_d11_224) rfl k) ?_
    show own_Go p.tables e below K (T69.setTop (mkF m 225 #[.val (.ref a1), .val (.ref r1), .val (.ref r2), .val (.long j1), .second, .val (.long j2), .second, .val (.long j3), .second, .val (.ref it58), .unset, .unset, .unset] [(.long (0 : Int64)), (.ref a1)]))
    obtain ⟨T70, h70, X70, e70, W70, st70⟩ := putF X69 hx hZ hown (host := "") (Or.inl (hw _ (List.mem_of_getElem? (i := 161) rfl))) Via.refl e69 F67_pivotWrites_a1 Ex67_a1 (Or.inl (hw _ (List.mem_of_getElem? (i := 162) rfl))) (hw _ (List.mem_of_getElem? (i := 33) rfl)) (ty := .long) (by decide) rfl rfl (g := (mkF m 225 #[.val (.ref a1), .val (.ref r1), .val (.ref r2), .val (.long j1), .second, .val (.long j2), .second, .val (.long j3), .second, .val (.ref it58), .unset, .unset, .unset] [(.long (0 : Int64)), (.ref a1)])) rfl rfl (hb hby own_d11_225)
    refine own_by st70 ?_
    have F70_tables_a1 := F67_tables_a1.other W70 (Or.inr (slot_ne (Or.inr (hw _ (List.mem_of_getElem? (i := 56) rfl))) (Or.inl (hw _ (List.mem_of_getElem? (i := 162) rfl))) (by decide) (t := (.object "java/util/Map")) (t' := .long) (by decide) (by decide)))
    have F70_pivots_a1 := F67_pivots_a1.other W70 (Or.inr (slot_ne (Or.inr (hw _ (List.mem_of_getElem? (i := 70) rfl))) (Or.inl (hw _ (List.mem_of_getElem? (i := 162) rfl))) (by decide) (t := (.object "java/util/Deque")) (t' := .long) (by decide) (by decide)))
    have F70_pivotWrites_a1 := F67_pivotWrites_a1.same W70
    have F70_last_a1 := F67_last_a1.other W70 (Or.inr (slot_ne (Or.inl (hw _ (List.mem_of_getElem? (i := 77) rfl))) (Or.inl (hw _ (List.mem_of_getElem? (i := 162) rfl))) (by decide) (t := .long) (t' := .long) (by decide) (by decide)))
    have F70_modCount_hm := F67_modCount_hm.other W70 (Or.inl (Exa.ne Ex67_hm Ex67_a1 (by decide)))
    have F70_table_hm := F67_table_hm.other W70 (Or.inl (Exa.ne Ex67_hm Ex67_a1 (by decide)))
    have F70_modCount_r1 := F67_modCount_r1.other W70 (Or.inl (Exa.ne Ex67_r1 Ex67_a1 (by decide)))
    have F70_size_r1 := F67_size_r1.other W70 (Or.inl (Exa.ne Ex67_r1 Ex67_a1 (by decide)))
    have F70_modCount_r2 := F67_modCount_r2.other W70 (Or.inl (Exa.ne Ex67_r2 Ex67_a1 (by decide)))
    have F70_size_r2 := F67_size_r2.other W70 (Or.inl (Exa.ne Ex67_r2 Ex67_a1 (by decide)))
    have F70_elements_dq := Bp67.2.1.other W70 (Or.inl (Exa.ne Bp67.1 Ex67_a1 (by decide)))
    have F70_head_dq := Bp67.2.2.1.other W70 (Or.inl (Exa.ne Bp67.1 Ex67_a1 (by decide)))
    have F70_tail_dq := Bp67.2.2.2.1.other W70 (Or.inl (Exa.ne Bp67.1 Ex67_a1 (by decide)))
    have xa70_el := Bp67.2.2.2.2.1.other W70 (Ne.symm (own_Ar.ne Ex67_a1 Bp67.2.2.2.2.1 (hw _ (List.mem_of_getElem? (i := 33) rfl))))
    have Ex70_a1 := Ex67_a1.wr W70
    have Ex70_hm := Ex67_hm.wr W70
    have Ex70_dq := Bp67.1.wr W70
    have Ex70_r1 := Ex67_r1.wr W70
    have Ex70_r2 := Ex67_r2.wr W70
    have Ex70_b65 := Ex67_b65.wr W70
    have K70 := K67.wr W70 (Or.inl (by simp))
    have Z70 := Nat.le_trans Z67 (Keep.of_wr W70).1
    have N70 := Fr.snoc X70 N69 ga
    show own_Go p.tables e below K (T70.setTop (mkF m 228 #[.val (.ref a1), .val (.ref r1), .val (.ref r2), .val (.long j1), .second, .val (.long j2), .second, .val (.long j3), .second, .val (.ref it58), .unset, .unset, .unset] []))
    refine own_by (fun t k => XS.aloadN X70.here hx rfl (hb hby own_d11_228) rfl rfl k) ?_
    show own_Go p.tables e below K (T70.setTop (mkF m 229 #[.val (.ref a1), .val (.ref r1), .val (.ref r2), .val (.long j1), .second, .val (.long j2), .second, .val (.long j3), .second, .val (.ref it58), .unset, .unset, .unset] [(.ref a1)]))
    obtain ⟨T71, X71, e71, st71⟩ := getF X70 hx hZ hown (host := "") (Or.inl (hw _ (List.mem_of_getElem? (i := 161) rfl))) Via.refl e70 F70_pivotWrites_a1 (g := (mkF m 229 #[.val (.ref a1), .val (.ref r1), .val (.ref r2), .val (.long j1), .second, .val (.long j2), .second, .val (.long j3), .second, .val (.ref it58), .unset, .unset, .unset] [(.ref a1)])) rfl rfl (hb hby own_d11_229)
    refine own_by st71 ?_
    show own_Go p.tables e below K (T71.setTop (mkF m 232 #[.val (.ref a1), .val (.ref r1), .val (.ref r2), .val (.long j1), .second, .val (.long j2), .second, .val (.long j3), .second, .val (.ref it58), .unset, .unset, .unset] [(.long (0 : Int64))]))
    refine own_by (fun t k => X71.ldc2Long hx hown (mvT hZ (hw _ (List.mem_of_getElem? (i := 172) rfl))) (g := (mkF m 232 #[.val (.ref a1), .val (.ref r1), .val (.ref r2), .val (.long j1), .second, .val (.long j2), .second, .val (.long j3), .second, .val (.ref it58), .unset, .unset, .unset] [(.long (0 : Int64))])) rfl (hb hby own_d11_232) _ k) ?_
    show own_Go p.tables e below K (T71.setTop (mkF m 235 #[.val (.ref a1), .val (.ref r1), .val (.ref r2), .val (.long j1), .second, .val (.long j2), .second, .val (.long j3), .second, .val (.ref it58), .unset, .unset, .unset] [(.long (1000 : Int64)), (.long (0 : Int64))]))
    refine own_by (fun t k => XS.lcmp X71.here hx rfl (hb hby own_d11_235) rfl k) ?_
    show own_Go p.tables e below K (T71.setTop (mkF m 236 #[.val (.ref a1), .val (.ref r1), .val (.ref r2), .val (.long j1), .second, .val (.long j2), .second, .val (.long j3), .second, .val (.ref it58), .unset, .unset, .unset] [(.int (lcmpW (0 : Int64) (1000 : Int64)))]))
    have hc236 : ¬ ((1000 : Int64) < (0 : Int64)) := by decide
    refine own_by (fun t k => XS.ifYes X71.here hx rfl (pc0 := 236) (pc' := 350) rfl (hb hby own_d11_236) rfl (own_lle hc236).2 (by decide) (by decide) k) ?_
    show own_Go p.tables e below K (T71.setTop (mkF m 350 #[.val (.ref a1), .val (.ref r1), .val (.ref r2), .val (.long j1), .second, .val (.long j2), .second, .val (.long j3), .second, .val (.ref it58), .unset, .unset, .unset] []))
    exact own_retV X71 hx hret (hb hby own_d11_350) (hK none X71 (fun _ => rfl) (by rw [e71]; exact ⟨rfl, N70, K70, Or.inr ⟨Ex70_a1, F70_tables_a1, F70_pivots_a1, F70_pivotWrites_a1, F70_last_a1, ⟨Ex70_hm, F70_modCount_hm, F70_table_hm⟩, ⟨Ex70_dq, F70_elements_dq, F70_head_dq, F70_tail_dq, xa70_el, B0.2.2.2.2.2.2.2.2.2.2.2⟩⟩⟩) (by decide) (by decide))
theorem own_effadd1 (m : MethodId) (a1 : Addr) (r1 : Addr) (r2 : Addr) (j1 : Int64) (j2 : Int64) (j3 : Int64) : entryFrame m #[(.ref a1), (.ref r1), (.ref r2), (.long j1), (.long j2), (.long j3)] 13 = mkF m 0 #[.val (.ref a1), .val (.ref r1), .val (.ref r2), .val (.long j1), .second, .val (.long j2), .second, .val (.long j3), .second, .unset, .unset, .unset, .unset] [] := by first | (simp [entryFrame, mkF, argsToLocals, Value.category]; done) | rfl
def own_Qfadd1 (Z : State) (a1 : Addr) (r1 : Addr) (r2 : Addr) (j1 : Int64) (j2 : Int64) (j3 : Int64) (hm : Addr) (dq : Addr) (el : Addr) (k : ClassId) (mc : Int32) (la : Int64) (h0 : Heap) (n0 : Nat) (v : Option Value) (h : Heap) (L : List Loc) : Prop := v = none ∧ Fr n0 L ∧ Keep h0 h [a1, dq, el] ∧ (own_FT Z h a1 hm dq el k mc (1 : Int32) (own_mx la j1) ∨ own_FT Z h a1 hm dq el k mc (2 : Int32) (own_mx la j1))
set_option maxRecDepth 65536 in
set_option maxHeartbeats 40000000 in
theorem own_rmfadd1 (l : Launch) (Z : State) (aw : Array Value) (hw : ∀ d ∈ tables_1, d.before aw Z = true) (ws : List Jvm.Cond) (a1 : Addr) (r1 : Addr) (r2 : Addr) (j1 : Int64) (j2 : Int64) (j3 : Int64) (hm : Addr) (dq : Addr) (el : Addr) (k : ClassId) (mc : Int32) (la : Int64) (h0 : Heap) (n0 : Nat) (Z0 : n0 ≤ h0.size) (B0 : own_FT Z h0 a1 hm dq el k mc (1 : Int32) la) (BR : own_AL Z h0 r1) (BW : own_AL Z h0 r2) (ga : n0 ≤ a1) (gh : n0 ≤ hm) (gd : n0 ≤ dq) (ge : n0 ≤ el) :
    MetFree l (⟨"com/example/predicate/predicate/engine/FoldedTransactions", "add", "(Ljava/util/List;Ljava/util/List;JJJ)V"⟩ : MethodName) (head1 (Jvm.Cond.code (⟨"com/example/predicate/predicate/engine/FoldedTransactions", "add", "(Ljava/util/List;Ljava/util/List;JJJ)V"⟩ : MethodName) prog_49_method_2_code 13 none :: ws) ({ frames := 4, cells := 3, slots := 10, locals := 90 } : Room)) (fun a U => a = #[(.ref a1), (.ref r1), (.ref r2), (.long j1), (.long j2), (.long j3)] ∧ Z.Warmed39 U.vm ∧ U.heap = h0) (fun _ _ _ _ _ => True) (fun _ U o U' => ∃ v L, o = .returned v ∧ own_Qfadd1 Z a1 r1 r2 j1 j2 j3 hm dq el k mc la h0 n0 v U'.heap L ∧ FrameEnd U o U' L ({ frames := 4, cells := 3, slots := 10, locals := 90 } : Room).cells ({ frames := 4, cells := 3, slots := 10, locals := 90 } : Room).slots) := by
  refine own_met (Q := own_Qfadd1 Z a1 r1 r2 j1 j2 j3 hm dq el k mc la h0 n0) (plainFor_of_name own_pn6) ?_
  intro p e s m below meth c s₁ K hx hby hml hown hnm hret hZ X0 e0 hK
  have hown : s.vm.findClass "com/example/predicate/predicate/engine/FoldedTransactions" = some m.cls := hown
  have N0 := Fr.nil n0
  refine own_by (fun t k => castTop (own_effadd1 m a1 r1 r2 j1 j2 j3) k) ?_
  show own_Go p.tables e below K (s₁.setTop (mkF m 0 #[.val (.ref a1), .val (.ref r1), .val (.ref r2), .val (.long j1), .second, .val (.long j2), .second, .val (.long j3), .second, .unset, .unset, .unset, .unset] []))
  refine own_by (fun t k => XS.aloadN X0.here hx rfl (hb hby own_d11_0) rfl rfl k) ?_
  show own_Go p.tables e below K (s₁.setTop (mkF m 1 #[.val (.ref a1), .val (.ref r1), .val (.ref r2), .val (.long j1), .second, .val (.long j2), .second, .val (.long j3), .second, .unset, .unset, .unset, .unset] [(.ref r1)]))
  obtain ⟨cq72, kq72, q72a, q72b, q72c⟩ := isOf hZ e0 BR.1
  obtain ⟨_, _, ⟨T72, L72, k72, n72⟩, -, X72, ⟨Lc72, hQ72, l72, y72, z72⟩, st72⟩ := X0.interfaceBack hx (xi := (⟨"java/util/List", "iterator", "()Ljava/util/Iterator;"⟩ : MethodName)) (y := (⟨"java/util/ArrayList", "iterator", "()Ljava/util/Iterator;"⟩ : MethodName)) hown (mvT hZ (hw _ (List.mem_of_getElem? (i := 83) rfl))) (mvT hZ (hw _ (List.mem_of_getElem? (i := 84) rfl))) (mvT hZ (hw _ (List.mem_of_getElem? (i := 85) rfl))) (mvT hZ (hw _ (List.mem_of_getElem? (i := 86) rfl))) (mvT hZ (hw _ (List.mem_of_getElem? (i := 87) rfl))) (mvT hZ (hw _ (List.mem_of_getElem? (i := 88) rfl))) (mvT hZ (hw _ (List.mem_of_getElem? (i := 89) rfl))) (mvT hZ (hw _ (List.mem_of_getElem? (i := 90) rfl))) (by decide) (backOf (W := 0) (own_rmitr l Z aw hw [] r1 h0 n0 Z0 ⟨BR.1, BR.2.1, BR.2.2⟩) hZ (hw _ (List.mem_of_getElem? (i := 91) rfl)) (hw _ (List.mem_of_getElem? (i := 8) rfl)) (by decide) (by decide)) q72a q72b q72c (g := (mkF m 1 #[.val (.ref a1), .val (.ref r1), .val (.ref r2), .val (.long j1), .second, .val (.long j2), .second, .val (.long j3), .second, .unset, .unset, .unset, .unset] [(.ref r1)])) rfl (by rw [hml]; rfl) (Steps.refl _) (argsL := []) (rest := []) (lenOf own_pd4 rfl) rfl (by show 2 * 0 + _ ≤ _; exact Nat.le_of_eq rfl) (hb hby own_d11_1) (fun _ _ => ⟨rfl, e0, (by decide : 0 + 1 ≤ _), (by decide : 0 + 4 ≤ _)⟩)
  dsimp only [Pt.U, Pt.locs, Pt.cells, Pt.slots] at X72 l72 y72 z72 st72 hQ72
  subst l72 y72 z72
  obtain ⟨it72, rfl, N72q, Kp72, Ip72⟩ := hQ72
  have N72 := Fr.app N0 N72q
  refine own_by (fun t k => st72.trans k) ?_
  have xa72_el := B0.2.2.2.2.2.2.2.2.2.2.1.keep Kp72 nin0
  have F72_tables_a1 := B0.2.1.keep Kp72 nin0
  have F72_pivots_a1 := B0.2.2.1.keep Kp72 nin0
  have F72_pivotWrites_a1 := B0.2.2.2.1.keep Kp72 nin0
  have F72_last_a1 := B0.2.2.2.2.1.keep Kp72 nin0
  have F72_modCount_hm := B0.2.2.2.2.2.1.2.1.keep Kp72 nin0
  have F72_table_hm := B0.2.2.2.2.2.1.2.2.keep Kp72 nin0
  have F72_elements_dq := B0.2.2.2.2.2.2.2.1.keep Kp72 nin0
  have F72_head_dq := B0.2.2.2.2.2.2.2.2.1.keep Kp72 nin0
  have F72_tail_dq := B0.2.2.2.2.2.2.2.2.2.1.keep Kp72 nin0
  have F72_modCount_r1 := BR.2.1.keep Kp72 nin0
  have F72_size_r1 := BR.2.2.keep Kp72 nin0
  have F72_modCount_r2 := BW.2.1.keep Kp72 nin0
  have F72_size_r2 := BW.2.2.keep Kp72 nin0
  have Ex72_a1 := B0.1.keep Kp72
  have Ex72_hm := B0.2.2.2.2.2.1.1.keep Kp72
  have Ex72_dq := B0.2.2.2.2.2.2.1.keep Kp72
  have Ex72_r1 := BR.1.keep Kp72
  have Ex72_r2 := BW.1.keep Kp72
  have K72 := (Keep.refl h0 [a1, dq, el]).trans Kp72 (all0)
  have Z72 := Nat.le_trans Z0 Kp72.1
  show own_Go p.tables e below K (T72.setTop (mkF m 6 #[.val (.ref a1), .val (.ref r1), .val (.ref r2), .val (.long j1), .second, .val (.long j2), .second, .val (.long j3), .second, .unset, .unset, .unset, .unset] [(.ref it72)]))
  refine own_by (fun t k => XS.astore X72.here hx rfl (hb hby own_d11_6) rfl rfl (l' := #[.val (.ref a1), .val (.ref r1), .val (.ref r2), .val (.long j1), .second, .val (.long j2), .second, .val (.long j3), .second, .val (.ref it72), .unset, .unset, .unset]) rfl k) ?_
  show own_Go p.tables e below K (T72.setTop (mkF m 8 #[.val (.ref a1), .val (.ref r1), .val (.ref r2), .val (.long j1), .second, .val (.long j2), .second, .val (.long j3), .second, .val (.ref it72), .unset, .unset, .unset] []))
  refine own_by (fun t k => XS.aload X72.here hx rfl (hb hby own_d11_8) rfl rfl k) ?_
  show own_Go p.tables e below K (T72.setTop (mkF m 10 #[.val (.ref a1), .val (.ref r1), .val (.ref r2), .val (.long j1), .second, .val (.long j2), .second, .val (.long j3), .second, .val (.ref it72), .unset, .unset, .unset] [(.ref it72)]))
  obtain ⟨cq73, kq73, q73a, q73b, q73c⟩ := isOf hZ rfl Ip72.1
  obtain ⟨_, _, ⟨T73, L73, k73, n73⟩, -, X73, ⟨Lc73, hQ73, l73, y73, z73⟩, st73⟩ := X72.interfaceBack hx (xi := (⟨"java/util/Iterator", "hasNext", "()Z"⟩ : MethodName)) (y := (⟨"java/util/ArrayList$Itr", "hasNext", "()Z"⟩ : MethodName)) hown (mvT hZ (hw _ (List.mem_of_getElem? (i := 108) rfl))) (mvT hZ (hw _ (List.mem_of_getElem? (i := 109) rfl))) (mvT hZ (hw _ (List.mem_of_getElem? (i := 110) rfl))) (mvT hZ (hw _ (List.mem_of_getElem? (i := 111) rfl))) (mvT hZ (hw _ (List.mem_of_getElem? (i := 112) rfl))) (mvT hZ (hw _ (List.mem_of_getElem? (i := 113) rfl))) (mvT hZ (hw _ (List.mem_of_getElem? (i := 114) rfl))) (mvT hZ (hw _ (List.mem_of_getElem? (i := 115) rfl))) (by decide) (backOf (W := 0) (own_rmhas l Z aw hw [] it72 r1 T72.heap n0 Z72 Ip72 ⟨Ex72_r1, F72_modCount_r1, F72_size_r1⟩) hZ (hw _ (List.mem_of_getElem? (i := 116) rfl)) (hw _ (List.mem_of_getElem? (i := 94) rfl)) (by decide) (by decide)) q73a q73b q73c (g := (mkF m 10 #[.val (.ref a1), .val (.ref r1), .val (.ref r2), .val (.long j1), .second, .val (.long j2), .second, .val (.long j3), .second, .val (.ref it72), .unset, .unset, .unset] [(.ref it72)])) rfl (by rw [hml]; rfl) (Steps.refl _) (argsL := []) (rest := []) (lenOf own_pd5 rfl) rfl (by show 2 * 0 + _ ≤ _; exact Nat.le_of_eq rfl) (hb hby own_d11_10) (fun _ _ => ⟨rfl, rfl, (by decide : 1 + 0 ≤ _), (by decide : 4 + 0 ≤ _)⟩)
  dsimp only [Pt.U, Pt.locs, Pt.cells, Pt.slots] at X73 l73 y73 z73 st73 hQ73
  subst l73 y73 z73
  obtain ⟨rfl, N73q, e73⟩ := hQ73
  have N73 := Fr.app N72 N73q
  refine own_by (fun t k => st73.trans k) ?_
  show own_Go p.tables e below K (T73.setTop (mkF m 15 #[.val (.ref a1), .val (.ref r1), .val (.ref r2), .val (.long j1), .second, .val (.long j2), .second, .val (.long j3), .second, .val (.ref it72), .unset, .unset, .unset] [(.int (0 : Int32))]))
  have hc15 : (0 : Int32) = (0 : Int32) := by decide
  refine own_by (fun t k => XS.ifYes X73.here hx rfl (pc0 := 15) (pc' := 86) rfl (hb hby own_d11_15) rfl ((if0 _ _).trans (teq hc15).1) (by decide) (by decide) k) ?_
  show own_Go p.tables e below K (T73.setTop (mkF m 86 #[.val (.ref a1), .val (.ref r1), .val (.ref r2), .val (.long j1), .second, .val (.long j2), .second, .val (.long j3), .second, .val (.ref it72), .unset, .unset, .unset] []))
  refine own_by (fun t k => XS.aloadN X73.here hx rfl (hb hby own_d11_86) rfl rfl k) ?_
  show own_Go p.tables e below K (T73.setTop (mkF m 87 #[.val (.ref a1), .val (.ref r1), .val (.ref r2), .val (.long j1), .second, .val (.long j2), .second, .val (.long j3), .second, .val (.ref it72), .unset, .unset, .unset] [(.ref r2)]))
  obtain ⟨cq74, kq74, q74a, q74b, q74c⟩ := isOf hZ e73 Ex72_r2
  obtain ⟨_, _, ⟨T74, L74, k74, n74⟩, -, X74, ⟨Lc74, hQ74, l74, y74, z74⟩, st74⟩ := X73.interfaceBack hx (xi := (⟨"java/util/List", "iterator", "()Ljava/util/Iterator;"⟩ : MethodName)) (y := (⟨"java/util/ArrayList", "iterator", "()Ljava/util/Iterator;"⟩ : MethodName)) hown (mvT hZ (hw _ (List.mem_of_getElem? (i := 83) rfl))) (mvT hZ (hw _ (List.mem_of_getElem? (i := 84) rfl))) (mvT hZ (hw _ (List.mem_of_getElem? (i := 85) rfl))) (mvT hZ (hw _ (List.mem_of_getElem? (i := 86) rfl))) (mvT hZ (hw _ (List.mem_of_getElem? (i := 87) rfl))) (mvT hZ (hw _ (List.mem_of_getElem? (i := 88) rfl))) (mvT hZ (hw _ (List.mem_of_getElem? (i := 89) rfl))) (mvT hZ (hw _ (List.mem_of_getElem? (i := 90) rfl))) (by decide) (backOf (W := 0) (own_rmitr l Z aw hw [] r2 T72.heap n0 Z72 ⟨Ex72_r2, F72_modCount_r2, F72_size_r2⟩) hZ (hw _ (List.mem_of_getElem? (i := 91) rfl)) (hw _ (List.mem_of_getElem? (i := 8) rfl)) (by decide) (by decide)) q74a q74b q74c (g := (mkF m 87 #[.val (.ref a1), .val (.ref r1), .val (.ref r2), .val (.long j1), .second, .val (.long j2), .second, .val (.long j3), .second, .val (.ref it72), .unset, .unset, .unset] [(.ref r2)])) rfl (by rw [hml]; rfl) (Steps.refl _) (argsL := []) (rest := []) (lenOf own_pd4 rfl) rfl (by show 2 * 0 + _ ≤ _; exact Nat.le_of_eq rfl) (hb hby own_d11_87) (fun _ _ => ⟨rfl, e73, (by decide : 1 + 1 ≤ _), (by decide : 4 + 4 ≤ _)⟩)
  dsimp only [Pt.U, Pt.locs, Pt.cells, Pt.slots] at X74 l74 y74 z74 st74 hQ74
  subst l74 y74 z74
  obtain ⟨it74, rfl, N74q, Kp74, Ip74⟩ := hQ74
  have N74 := Fr.app N73 N74q
  refine own_by (fun t k => st74.trans k) ?_
  have xa74_el := xa72_el.keep Kp74 nin0
  have F74_tables_a1 := F72_tables_a1.keep Kp74 nin0
  have F74_pivots_a1 := F72_pivots_a1.keep Kp74 nin0
  have F74_pivotWrites_a1 := F72_pivotWrites_a1.keep Kp74 nin0
  have F74_last_a1 := F72_last_a1.keep Kp74 nin0
  have F74_modCount_hm := F72_modCount_hm.keep Kp74 nin0
  have F74_table_hm := F72_table_hm.keep Kp74 nin0
  have F74_elements_dq := F72_elements_dq.keep Kp74 nin0
  have F74_head_dq := F72_head_dq.keep Kp74 nin0
  have F74_tail_dq := F72_tail_dq.keep Kp74 nin0
  have F74_modCount_r1 := F72_modCount_r1.keep Kp74 nin0
  have F74_size_r1 := F72_size_r1.keep Kp74 nin0
  have F74_modCount_r2 := F72_modCount_r2.keep Kp74 nin0
  have F74_size_r2 := F72_size_r2.keep Kp74 nin0
  have Ex74_a1 := Ex72_a1.keep Kp74
  have Ex74_hm := Ex72_hm.keep Kp74
  have Ex74_dq := Ex72_dq.keep Kp74
  have Ex74_r1 := Ex72_r1.keep Kp74
  have Ex74_r2 := Ex72_r2.keep Kp74
  have K74 := K72.trans Kp74 (all0)
  have Z74 := Nat.le_trans Z72 Kp74.1
  show own_Go p.tables e below K (T74.setTop (mkF m 92 #[.val (.ref a1), .val (.ref r1), .val (.ref r2), .val (.long j1), .second, .val (.long j2), .second, .val (.long j3), .second, .val (.ref it72), .unset, .unset, .unset] [(.ref it74)]))
  refine own_by (fun t k => XS.astore X74.here hx rfl (hb hby own_d11_92) rfl rfl (l' := #[.val (.ref a1), .val (.ref r1), .val (.ref r2), .val (.long j1), .second, .val (.long j2), .second, .val (.long j3), .second, .val (.ref it74), .unset, .unset, .unset]) rfl k) ?_
  show own_Go p.tables e below K (T74.setTop (mkF m 94 #[.val (.ref a1), .val (.ref r1), .val (.ref r2), .val (.long j1), .second, .val (.long j2), .second, .val (.long j3), .second, .val (.ref it74), .unset, .unset, .unset] []))
  refine own_by (fun t k => XS.aload X74.here hx rfl (hb hby own_d11_94) rfl rfl k) ?_
  show own_Go p.tables e below K (T74.setTop (mkF m 96 #[.val (.ref a1), .val (.ref r1), .val (.ref r2), .val (.long j1), .second, .val (.long j2), .second, .val (.long j3), .second, .val (.ref it74), .unset, .unset, .unset] [(.ref it74)]))
  obtain ⟨cq75, kq75, q75a, q75b, q75c⟩ := isOf hZ rfl Ip74.1
  obtain ⟨_, _, ⟨T75, L75, k75, n75⟩, -, X75, ⟨Lc75, hQ75, l75, y75, z75⟩, st75⟩ := X74.interfaceBack hx (xi := (⟨"java/util/Iterator", "hasNext", "()Z"⟩ : MethodName)) (y := (⟨"java/util/ArrayList$Itr", "hasNext", "()Z"⟩ : MethodName)) hown (mvT hZ (hw _ (List.mem_of_getElem? (i := 108) rfl))) (mvT hZ (hw _ (List.mem_of_getElem? (i := 109) rfl))) (mvT hZ (hw _ (List.mem_of_getElem? (i := 110) rfl))) (mvT hZ (hw _ (List.mem_of_getElem? (i := 111) rfl))) (mvT hZ (hw _ (List.mem_of_getElem? (i := 112) rfl))) (mvT hZ (hw _ (List.mem_of_getElem? (i := 113) rfl))) (mvT hZ (hw _ (List.mem_of_getElem? (i := 114) rfl))) (mvT hZ (hw _ (List.mem_of_getElem? (i := 115) rfl))) (by decide) (backOf (W := 0) (own_rmhas l Z aw hw [] it74 r2 T74.heap n0 Z74 Ip74 ⟨Ex74_r2, F74_modCount_r2, F74_size_r2⟩) hZ (hw _ (List.mem_of_getElem? (i := 116) rfl)) (hw _ (List.mem_of_getElem? (i := 94) rfl)) (by decide) (by decide)) q75a q75b q75c (g := (mkF m 96 #[.val (.ref a1), .val (.ref r1), .val (.ref r2), .val (.long j1), .second, .val (.long j2), .second, .val (.long j3), .second, .val (.ref it74), .unset, .unset, .unset] [(.ref it74)])) rfl (by rw [hml]; rfl) (Steps.refl _) (argsL := []) (rest := []) (lenOf own_pd5 rfl) rfl (by show 2 * 0 + _ ≤ _; exact Nat.le_of_eq rfl) (hb hby own_d11_96) (fun _ _ => ⟨rfl, rfl, (by decide : 2 + 0 ≤ _), (by decide : 8 + 0 ≤ _)⟩)
  dsimp only [Pt.U, Pt.locs, Pt.cells, Pt.slots] at X75 l75 y75 z75 st75 hQ75
  subst l75 y75 z75
  obtain ⟨rfl, N75q, e75⟩ := hQ75
  have N75 := Fr.app N74 N75q
  refine own_by (fun t k => st75.trans k) ?_
  show own_Go p.tables e below K (T75.setTop (mkF m 101 #[.val (.ref a1), .val (.ref r1), .val (.ref r2), .val (.long j1), .second, .val (.long j2), .second, .val (.long j3), .second, .val (.ref it74), .unset, .unset, .unset] [(.int (0 : Int32))]))
  have hc101 : (0 : Int32) = (0 : Int32) := by decide
  refine own_by (fun t k => XS.ifYes X75.here hx rfl (pc0 := 101) (pc' := 171) rfl (hb hby own_d11_101) rfl ((if0 _ _).trans (teq hc101).1) (by decide) (by decide) k) ?_
  show own_Go p.tables e below K (T75.setTop (mkF m 171 #[.val (.ref a1), .val (.ref r1), .val (.ref r2), .val (.long j1), .second, .val (.long j2), .second, .val (.long j3), .second, .val (.ref it74), .unset, .unset, .unset] []))
  refine own_by (fun t k => XS.aloadN X75.here hx rfl (hb hby own_d11_171) rfl rfl k) ?_
  show own_Go p.tables e below K (T75.setTop (mkF m 172 #[.val (.ref a1), .val (.ref r1), .val (.ref r2), .val (.long j1), .second, .val (.long j2), .second, .val (.long j3), .second, .val (.ref it74), .unset, .unset, .unset] [(.ref a1)]))
  refine own_by (fun t k => XS.aloadN X75.here hx rfl (hb hby own_d11_172) rfl rfl k) ?_
  show own_Go p.tables e below K (T75.setTop (mkF m 173 #[.val (.ref a1), .val (.ref r1), .val (.ref r2), .val (.long j1), .second, .val (.long j2), .second, .val (.long j3), .second, .val (.ref it74), .unset, .unset, .unset] [(.ref a1), (.ref a1)]))
  obtain ⟨T76, X76, e76, st76⟩ := getF X75 hx hZ hown (host := "") (Or.inl (hw _ (List.mem_of_getElem? (i := 76) rfl))) Via.refl e75 F74_last_a1 (g := (mkF m 173 #[.val (.ref a1), .val (.ref r1), .val (.ref r2), .val (.long j1), .second, .val (.long j2), .second, .val (.long j3), .second, .val (.ref it74), .unset, .unset, .unset] [(.ref a1), (.ref a1)])) rfl rfl (hb hby own_d11_173)
  refine own_by st76 ?_
  show own_Go p.tables e below K (T76.setTop (mkF m 176 #[.val (.ref a1), .val (.ref r1), .val (.ref r2), .val (.long j1), .second, .val (.long j2), .second, .val (.long j3), .second, .val (.ref it74), .unset, .unset, .unset] [(.long la), (.ref a1)]))
  refine own_by (fun t k => XS.lloadN X76.here hx rfl (hb hby own_d11_176) rfl k) ?_
  show own_Go p.tables e below K (T76.setTop (mkF m 177 #[.val (.ref a1), .val (.ref r1), .val (.ref r2), .val (.long j1), .second, .val (.long j2), .second, .val (.long j3), .second, .val (.ref it74), .unset, .unset, .unset] [(.long j1), (.long la), (.ref a1)]))
  obtain ⟨_, _, ⟨T77, L77, k77, n77⟩, -, X77, ⟨Lc77, hQ77, l77, y77, z77⟩, st77⟩ := Jvm.LawKit.callS X76 hx (y := (⟨"java/lang/Math", "max", "(JJ)J"⟩ : MethodName)) hown (mvT hZ (hw _ (List.mem_of_getElem? (i := 121) rfl))) (mvT hZ (hw _ (List.mem_of_getElem? (i := 2) rfl))) (mvT hZ (hw _ (List.mem_of_getElem? (i := 3) rfl))) (mvT hZ (hw _ (List.mem_of_getElem? (i := 4) rfl))) (by decide) (backOf (W := 1) (own_rmmx l Z aw hw [] la j1 T74.heap n0 Z74) hZ (hw _ (List.mem_of_getElem? (i := 4) rfl)) (hw _ (List.mem_of_getElem? (i := 3) rfl)) (by decide) (by decide)) (g := (mkF m 177 #[.val (.ref a1), .val (.ref r1), .val (.ref r2), .val (.long j1), .second, .val (.long j2), .second, .val (.long j3), .second, .val (.ref it74), .unset, .unset, .unset] [(.long j1), (.long la), (.ref a1)])) rfl (by rw [hml]; rfl) (argsL := [(.long la), (.long j1)]) (rest := [(.ref a1)]) (lenOf own_pd6 rfl) rfl (by show 2 * 0 + _ ≤ _; exact Nat.le_of_eq rfl) (hb hby own_d11_177) (fun _ _ => ⟨rfl, e76, (by decide : 2 + 0 ≤ _), (by decide : 8 + 0 ≤ _)⟩)
  dsimp only [Pt.U, Pt.locs, Pt.cells, Pt.slots] at X77 l77 y77 z77 st77 hQ77
  subst l77 y77 z77
  obtain ⟨rfl, N77q, e77⟩ := hQ77
  have N77 := Fr.app N75 N77q
  refine own_by st77 ?_
  show own_Go p.tables e below K (T77.setTop (mkF m 180 #[.val (.ref a1), .val (.ref r1), .val (.ref r2), .val (.long j1), .second, .val (.long j2), .second, .val (.long j3), .second, .val (.ref it74), .unset, .unset, .unset] [(.long (own_mx la j1)), (.ref a1)]))
  obtain ⟨T78, h78, X78, e78, W78, st78⟩ := putF X77 hx hZ hown (host := "") (Or.inl (hw _ (List.mem_of_getElem? (i := 76) rfl))) Via.refl e77 F74_last_a1 Ex74_a1 (Or.inl (hw _ (List.mem_of_getElem? (i := 77) rfl))) (hw _ (List.mem_of_getElem? (i := 33) rfl)) (ty := .long) (by decide) rfl rfl (g := (mkF m 180 #[.val (.ref a1), .val (.ref r1), .val (.ref r2), .val (.long j1), .second, .val (.long j2), .second, .val (.long j3), .second, .val (.ref it74), .unset, .unset, .unset] [(.long (own_mx la j1)), (.ref a1)])) rfl rfl (hb hby own_d11_180)
  refine own_by st78 ?_
  have F78_tables_a1 := F74_tables_a1.other W78 (Or.inr (slot_ne (Or.inr (hw _ (List.mem_of_getElem? (i := 56) rfl))) (Or.inl (hw _ (List.mem_of_getElem? (i := 77) rfl))) (by decide) (t := (.object "java/util/Map")) (t' := .long) (by decide) (by decide)))
  have F78_pivots_a1 := F74_pivots_a1.other W78 (Or.inr (slot_ne (Or.inr (hw _ (List.mem_of_getElem? (i := 70) rfl))) (Or.inl (hw _ (List.mem_of_getElem? (i := 77) rfl))) (by decide) (t := (.object "java/util/Deque")) (t' := .long) (by decide) (by decide)))
  have F78_pivotWrites_a1 := F74_pivotWrites_a1.other W78 (Or.inr (slot_ne (Or.inl (hw _ (List.mem_of_getElem? (i := 162) rfl))) (Or.inl (hw _ (List.mem_of_getElem? (i := 77) rfl))) (by decide) (t := .long) (t' := .long) (by decide) (by decide)))
  have F78_last_a1 := F74_last_a1.same W78
  have F78_modCount_hm := F74_modCount_hm.other W78 (Or.inl (Exa.ne Ex74_hm Ex74_a1 (by decide)))
  have F78_table_hm := F74_table_hm.other W78 (Or.inl (Exa.ne Ex74_hm Ex74_a1 (by decide)))
  have F78_elements_dq := F74_elements_dq.other W78 (Or.inl (Exa.ne Ex74_dq Ex74_a1 (by decide)))
  have F78_head_dq := F74_head_dq.other W78 (Or.inl (Exa.ne Ex74_dq Ex74_a1 (by decide)))
  have F78_tail_dq := F74_tail_dq.other W78 (Or.inl (Exa.ne Ex74_dq Ex74_a1 (by decide)))
  have F78_modCount_r1 := F74_modCount_r1.other W78 (Or.inl (Exa.ne Ex74_r1 Ex74_a1 (by decide)))
  have F78_size_r1 := F74_size_r1.other W78 (Or.inl (Exa.ne Ex74_r1 Ex74_a1 (by decide)))
  have F78_modCount_r2 := F74_modCount_r2.other W78 (Or.inl (Exa.ne Ex74_r2 Ex74_a1 (by decide)))
  have F78_size_r2 := F74_size_r2.other W78 (Or.inl (Exa.ne Ex74_r2 Ex74_a1 (by decide)))
  have xa78_el := xa74_el.other W78 (Ne.symm (own_Ar.ne Ex74_a1 xa74_el (hw _ (List.mem_of_getElem? (i := 33) rfl))))
  have Ex78_a1 := Ex74_a1.wr W78
  have Ex78_hm := Ex74_hm.wr W78
  have Ex78_dq := Ex74_dq.wr W78
  have Ex78_r1 := Ex74_r1.wr W78
  have Ex78_r2 := Ex74_r2.wr W78
  have K78 := K74.wr W78 (Or.inl (by simp))
  have Z78 := Nat.le_trans Z74 (Keep.of_wr W78).1
  have N78 := Fr.snoc X78 N77 ga
  show own_Go p.tables e below K (T78.setTop (mkF m 183 #[.val (.ref a1), .val (.ref r1), .val (.ref r2), .val (.long j1), .second, .val (.long j2), .second, .val (.long j3), .second, .val (.ref it74), .unset, .unset, .unset] []))
  refine own_by (fun t k => XS.lload X78.here hx rfl (hb hby own_d11_183) rfl k) ?_
  show own_Go p.tables e below K (T78.setTop (mkF m 185 #[.val (.ref a1), .val (.ref r1), .val (.ref r2), .val (.long j1), .second, .val (.long j2), .second, .val (.long j3), .second, .val (.ref it74), .unset, .unset, .unset] [(.long j3)]))
  refine own_by (fun t k => X78.ldc2Long hx hown (mvT hZ (hw _ (List.mem_of_getElem? (i := 122) rfl))) (g := (mkF m 185 #[.val (.ref a1), .val (.ref r1), .val (.ref r2), .val (.long j1), .second, .val (.long j2), .second, .val (.long j3), .second, .val (.ref it74), .unset, .unset, .unset] [(.long j3)])) rfl (hb hby own_d11_185) _ k) ?_
  show own_Go p.tables e below K (T78.setTop (mkF m 188 #[.val (.ref a1), .val (.ref r1), .val (.ref r2), .val (.long j1), .second, .val (.long j2), .second, .val (.long j3), .second, .val (.ref it74), .unset, .unset, .unset] [(.long (9223372036854775807 : Int64)), (.long j3)]))
  refine own_by (fun t k => XS.lcmp X78.here hx rfl (hb hby own_d11_188) rfl k) ?_
  show own_Go p.tables e below K (T78.setTop (mkF m 189 #[.val (.ref a1), .val (.ref r1), .val (.ref r2), .val (.long j1), .second, .val (.long j2), .second, .val (.long j3), .second, .val (.ref it74), .unset, .unset, .unset] [(.int (lcmpW j3 (9223372036854775807 : Int64)))]))
  by_cases hc189 : j3 = (9223372036854775807 : Int64)
  · refine own_by (fun t k => XS.ifYes X78.here hx rfl (pc0 := 189) (pc' := 228) rfl (hb hby own_d11_189) rfl (own_leq hc189).1 (by decide) (by decide) k) ?_
    show own_Go p.tables e below K (T78.setTop (mkF m 228 #[.val (.ref a1), .val (.ref r1), .val (.ref r2), .val (.long j1), .second, .val (.long j2), .second, .val (.long j3), .second, .val (.ref it74), .unset, .unset, .unset] []))
    refine own_by (fun t k => XS.aloadN X78.here hx rfl (hb hby own_d11_228) rfl rfl k) ?_
    show own_Go p.tables e below K (T78.setTop (mkF m 229 #[.val (.ref a1), .val (.ref r1), .val (.ref r2), .val (.long j1), .second, .val (.long j2), .second, .val (.long j3), .second, .val (.ref it74), .unset, .unset, .unset] [(.ref a1)]))
    obtain ⟨T79, X79, e79, st79⟩ := getF X78 hx hZ hown (host := "") (Or.inl (hw _ (List.mem_of_getElem? (i := 161) rfl))) Via.refl e78 F78_pivotWrites_a1 (g := (mkF m 229 #[.val (.ref a1), .val (.ref r1), .val (.ref r2), .val (.long j1), .second, .val (.long j2), .second, .val (.long j3), .second, .val (.ref it74), .unset, .unset, .unset] [(.ref a1)])) rfl rfl (hb hby own_d11_229)
    refine own_by st79 ?_
    show own_Go p.tables e below K (T79.setTop (mkF m 232 #[.val (.ref a1), .val (.ref r1), .val (.ref r2), .val (.long j1), .second, .val (.long j2), .second, .val (.long j3), .second, .val (.ref it74), .unset, .unset, .unset] [(.long (0 : Int64))]))
    refine own_by (fun t k => X79.ldc2Long hx hown (mvT hZ (hw _ (List.mem_of_getElem? (i := 172) rfl))) (g := (mkF m 232 #[.val (.ref a1), .val (.ref r1), .val (.ref r2), .val (.long j1), .second, .val (.long j2), .second, .val (.long j3), .second, .val (.ref it74), .unset, .unset, .unset] [(.long (0 : Int64))])) rfl (hb hby own_d11_232) _ k) ?_
    show own_Go p.tables e below K (T79.setTop (mkF m 235 #[.val (.ref a1), .val (.ref r1), .val (.ref r2), .val (.long j1), .second, .val (.long j2), .second, .val (.long j3), .second, .val (.ref it74), .unset, .unset, .unset] [(.long (1000 : Int64)), (.long (0 : Int64))]))
    refine own_by (fun t k => XS.lcmp X79.here hx rfl (hb hby own_d11_235) rfl k) ?_
    show own_Go p.tables e below K (T79.setTop (mkF m 236 #[.val (.ref a1), .val (.ref r1), .val (.ref r2), .val (.long j1), .second, .val (.long j2), .second, .val (.long j3), .second, .val (.ref it74), .unset, .unset, .unset] [(.int (lcmpW (0 : Int64) (1000 : Int64)))]))
    have hc236 : ¬ ((1000 : Int64) < (0 : Int64)) := by decide
    refine own_by (fun t k => XS.ifYes X79.here hx rfl (pc0 := 236) (pc' := 350) rfl (hb hby own_d11_236) rfl (own_lle hc236).2 (by decide) (by decide) k) ?_
    show own_Go p.tables e below K (T79.setTop (mkF m 350 #[.val (.ref a1), .val (.ref r1), .val (.ref r2), .val (.long j1), .second, .val (.long j2), .second, .val (.long j3), .second, .val (.ref it74), .unset, .unset, .unset] []))
    exact own_retV X79 hx hret (hb hby own_d11_350) (hK none X79 (fun _ => rfl) (by rw [e79]; exact ⟨rfl, N78, K78, Or.inl ⟨Ex78_a1, F78_tables_a1, F78_pivots_a1, F78_pivotWrites_a1, F78_last_a1, ⟨Ex78_hm, F78_modCount_hm, F78_table_hm⟩, ⟨Ex78_dq, F78_elements_dq, F78_head_dq, F78_tail_dq, xa78_el, B0.2.2.2.2.2.2.2.2.2.2.2⟩⟩⟩) (by decide) (by decide))
  · refine own_by (fun t k => XS.ifNo X78.here hx rfl (hb hby own_d11_189) rfl (own_lne hc189).1 k) ?_
    show own_Go p.tables e below K (T78.setTop (mkF m 192 #[.val (.ref a1), .val (.ref r1), .val (.ref r2), .val (.long j1), .second, .val (.long j2), .second, .val (.long j3), .second, .val (.ref it74), .unset, .unset, .unset] []))
    refine own_by (fun t k => XS.aloadN X78.here hx rfl (hb hby own_d11_192) rfl rfl k) ?_
    show own_Go p.tables e below K (T78.setTop (mkF m 193 #[.val (.ref a1), .val (.ref r1), .val (.ref r2), .val (.long j1), .second, .val (.long j2), .second, .val (.long j3), .second, .val (.ref it74), .unset, .unset, .unset] [(.ref a1)]))
    obtain ⟨T80, X80, e80, st80⟩ := getF X78 hx hZ hown (host := "") (Or.inl (hw _ (List.mem_of_getElem? (i := 69) rfl))) Via.refl e78 F78_pivots_a1 (g := (mkF m 193 #[.val (.ref a1), .val (.ref r1), .val (.ref r2), .val (.long j1), .second, .val (.long j2), .second, .val (.long j3), .second, .val (.ref it74), .unset, .unset, .unset] [(.ref a1)])) rfl rfl (hb hby own_d11_193)
    refine own_by st80 ?_
    show own_Go p.tables e below K (T80.setTop (mkF m 196 #[.val (.ref a1), .val (.ref r1), .val (.ref r2), .val (.long j1), .second, .val (.long j2), .second, .val (.long j3), .second, .val (.ref it74), .unset, .unset, .unset] [(.ref dq)]))
    obtain ⟨T81, h81, X81, e81, E81, A81, D81, -, st81⟩ := newO X80 hx hZ hown (hw _ (List.mem_of_getElem? (i := 123) rfl)) (hw _ (List.mem_of_getElem? (i := 124) rfl)) (hw _ (List.mem_of_getElem? (i := 125) rfl)) e80 (g := (mkF m 196 #[.val (.ref a1), .val (.ref r1), .val (.ref r2), .val (.long j1), .second, .val (.long j2), .second, .val (.long j3), .second, .val (.ref it74), .unset, .unset, .unset] [(.ref dq)])) rfl (hb hby own_d11_196) (by decide) (by decide)
    obtain ⟨b81, g81⟩ : ∃ z, z = h78.size := ⟨_, rfl⟩
    rw [← g81] at A81 D81 st81
    refine own_by st81 ?_
    have gn_b81 : n0 ≤ b81 := Nat.le_trans Z78 (Nat.le_of_eq g81.symm)
    have ne_el_b81 : el ≠ b81 := Nat.ne_of_lt (Nat.lt_of_lt_of_le xa78_el.lt (Nat.le_of_eq g81.symm))
    have sz_b81 : h0.size ≤ b81 := Nat.le_trans K78.1 (Nat.le_of_eq g81.symm)
    have ne_a1_b81 : a1 ≠ b81 := Nat.ne_of_lt (Nat.lt_of_lt_of_le Ex78_a1.lt (Nat.le_of_eq g81.symm))
    have ne_hm_b81 : hm ≠ b81 := Nat.ne_of_lt (Nat.lt_of_lt_of_le Ex78_hm.lt (Nat.le_of_eq g81.symm))
    have ne_dq_b81 : dq ≠ b81 := Nat.ne_of_lt (Nat.lt_of_lt_of_le Ex78_dq.lt (Nat.le_of_eq g81.symm))
    have ne_r1_b81 : r1 ≠ b81 := Nat.ne_of_lt (Nat.lt_of_lt_of_le Ex78_r1.lt (Nat.le_of_eq g81.symm))
    have ne_r2_b81 : r2 ≠ b81 := Nat.ne_of_lt (Nat.lt_of_lt_of_le Ex78_r2.lt (Nat.le_of_eq g81.symm))
    have F81_tables_a1 := F78_tables_a1.ext E81
    have F81_pivots_a1 := F78_pivots_a1.ext E81
    have F81_pivotWrites_a1 := F78_pivotWrites_a1.ext E81
    have F81_last_a1 := F78_last_a1.ext E81
    have F81_modCount_hm := F78_modCount_hm.ext E81
    have F81_table_hm := F78_table_hm.ext E81
    have F81_elements_dq := F78_elements_dq.ext E81
    have F81_head_dq := F78_head_dq.ext E81
    have F81_tail_dq := F78_tail_dq.ext E81
    have F81_modCount_r1 := F78_modCount_r1.ext E81
    have F81_size_r1 := F78_size_r1.ext E81
    have F81_modCount_r2 := F78_modCount_r2.ext E81
    have F81_size_r2 := F78_size_r2.ext E81
    have Ex81_a1 := Ex78_a1.ext E81
    have Ex81_hm := Ex78_hm.ext E81
    have Ex81_dq := Ex78_dq.ext E81
    have Ex81_r1 := Ex78_r1.ext E81
    have Ex81_r2 := Ex78_r2.ext E81
    have xa81_el := xa78_el.ext E81
    have K81 := K78.ext E81
    have Z81 := Nat.le_trans Z78 E81.1
    have F81_writes_b81 : Fld Z h81 b81 "com/example/predicate/predicate/engine/FoldedTransactions$Pivot" "writes" "Ljava/util/List;" .null := D81 (Or.inr (hw _ (List.mem_of_getElem? (i := 136) rfl))) (ty := (.object "java/util/List")) (by decide)
    have F81_pivotOut_b81 : Fld Z h81 b81 "com/example/predicate/predicate/engine/FoldedTransactions$Pivot" "pivotOut" "J" (.long (0 : Int64)) := D81 (Or.inr (hw _ (List.mem_of_getElem? (i := 138) rfl))) (ty := .long) (by decide)
    show own_Go p.tables e below K (T81.setTop (mkF m 199 #[.val (.ref a1), .val (.ref r1), .val (.ref r2), .val (.long j1), .second, .val (.long j2), .second, .val (.long j3), .second, .val (.ref it74), .unset, .unset, .unset] [(.ref b81), (.ref dq)]))
    refine own_by (fun t k => XS.dup X81.here hx rfl (hb hby own_d11_199) rfl rfl k) ?_
    show own_Go p.tables e below K (T81.setTop (mkF m 200 #[.val (.ref a1), .val (.ref r1), .val (.ref r2), .val (.long j1), .second, .val (.long j2), .second, .val (.long j3), .second, .val (.ref it74), .unset, .unset, .unset] [(.ref b81), (.ref b81), (.ref dq)]))
    refine own_by (fun t k => XS.aloadN X81.here hx rfl (hb hby own_d11_200) rfl rfl k) ?_
    show own_Go p.tables e below K (T81.setTop (mkF m 201 #[.val (.ref a1), .val (.ref r1), .val (.ref r2), .val (.long j1), .second, .val (.long j2), .second, .val (.long j3), .second, .val (.ref it74), .unset, .unset, .unset] [(.ref r2), (.ref b81), (.ref b81), (.ref dq)]))
    refine own_by (fun t k => XS.lload X81.here hx rfl (hb hby own_d11_201) rfl k) ?_
    show own_Go p.tables e below K (T81.setTop (mkF m 203 #[.val (.ref a1), .val (.ref r1), .val (.ref r2), .val (.long j1), .second, .val (.long j2), .second, .val (.long j3), .second, .val (.ref it74), .unset, .unset, .unset] [(.long j3), (.ref r2), (.ref b81), (.ref b81), (.ref dq)]))
    obtain ⟨_, _, ⟨T82, L82, k82, n82⟩, -, X82, ⟨Lc82, hQ82, l82, y82, z82⟩, st82⟩ := own_specialRef X81 hx hZ (y := (⟨"com/example/predicate/predicate/engine/FoldedTransactions$Pivot", "<init>", "(Ljava/util/List;J)V"⟩ : MethodName)) rfl hown (hw _ (List.mem_of_getElem? (i := 126) rfl)) (mvT hZ (hw _ (List.mem_of_getElem? (i := 127) rfl))) (mvT hZ (hw _ (List.mem_of_getElem? (i := 128) rfl))) (by decide) (backOf (W := 2) (own_rmpvn l Z aw hw [] b81 r2 j3 h81 n0 Z81 A81 gn_b81 F81_writes_b81 F81_pivotOut_b81) hZ (hw _ (List.mem_of_getElem? (i := 128) rfl)) (hw _ (List.mem_of_getElem? (i := 125) rfl)) (by decide) (by decide)) (g := (mkF m 203 #[.val (.ref a1), .val (.ref r1), .val (.ref r2), .val (.long j1), .second, .val (.long j2), .second, .val (.long j3), .second, .val (.ref it74), .unset, .unset, .unset] [(.long j3), (.ref r2), (.ref b81), (.ref b81), (.ref dq)])) rfl (by rw [hml]; rfl) (a := b81) (argsL := [(.ref r2), (.long j3)]) (rest := [(.ref b81), (.ref dq)]) (lenOf own_pd7 rfl) rfl (by show 2 * 0 + _ ≤ _; exact Nat.le_of_eq rfl) (hb hby own_d11_203) (fun _ _ => ⟨rfl, e81, (by decide : 3 + 0 ≤ _), (by decide : 10 + 0 ≤ _)⟩)
    dsimp only [Pt.U, Pt.locs, Pt.cells, Pt.slots] at X82 l82 y82 z82 st82 hQ82
    subst l82 y82 z82
    obtain ⟨rfl, N82q, Kp82, Xp82⟩ := hQ82
    have N82 := Fr.app N78 N82q
    refine own_by (fun t k => st82.trans k) ?_
    have xa82_el := xa81_el.keep Kp82 (ninS ne_el_b81 nin0)
    have F82_tables_a1 := F81_tables_a1.keep Kp82 (ninS ne_a1_b81 nin0)
    have F82_pivots_a1 := F81_pivots_a1.keep Kp82 (ninS ne_a1_b81 nin0)
    have F82_pivotWrites_a1 := F81_pivotWrites_a1.keep Kp82 (ninS ne_a1_b81 nin0)
    have F82_last_a1 := F81_last_a1.keep Kp82 (ninS ne_a1_b81 nin0)
    have F82_modCount_hm := F81_modCount_hm.keep Kp82 (ninS ne_hm_b81 nin0)
    have F82_table_hm := F81_table_hm.keep Kp82 (ninS ne_hm_b81 nin0)
    have F82_elements_dq := F81_elements_dq.keep Kp82 (ninS ne_dq_b81 nin0)
    have F82_head_dq := F81_head_dq.keep Kp82 (ninS ne_dq_b81 nin0)
    have F82_tail_dq := F81_tail_dq.keep Kp82 (ninS ne_dq_b81 nin0)
    have F82_modCount_r1 := F81_modCount_r1.keep Kp82 (ninS ne_r1_b81 nin0)
    have F82_size_r1 := F81_size_r1.keep Kp82 (ninS ne_r1_b81 nin0)
    have F82_modCount_r2 := F81_modCount_r2.keep Kp82 (ninS ne_r2_b81 nin0)
    have F82_size_r2 := F81_size_r2.keep Kp82 (ninS ne_r2_b81 nin0)
    have Ex82_a1 := Ex81_a1.keep Kp82
    have Ex82_hm := Ex81_hm.keep Kp82
    have Ex82_dq := Ex81_dq.keep Kp82
    have Ex82_r1 := Ex81_r1.keep Kp82
    have Ex82_r2 := Ex81_r2.keep Kp82
    have Ex82_b81 := A81.keep Kp82
    have K82 := K81.trans Kp82 (allS (Or.inr sz_b81) (all0))
    have Z82 := Nat.le_trans Z81 Kp82.1
    show own_Go p.tables e below K (T82.setTop (mkF m 206 #[.val (.ref a1), .val (.ref r1), .val (.ref r2), .val (.long j1), .second, .val (.long j2), .second, .val (.long j3), .second, .val (.ref it74), .unset, .unset, .unset] [(.ref b81), (.ref dq)]))
    obtain ⟨cq83, kq83, q83a, q83b, q83c⟩ := isOf hZ rfl Ex82_dq
    obtain ⟨_, _, ⟨T83, L83, k83, n83⟩, -, X83, ⟨Lc83, hQ83, l83, y83, z83⟩, st83⟩ := X82.interfaceBack hx (xi := (⟨"java/util/Deque", "add", "(Ljava/lang/Object;)Z"⟩ : MethodName)) (y := (⟨"java/util/ArrayDeque", "add", "(Ljava/lang/Object;)Z"⟩ : MethodName)) hown (mvT hZ (hw _ (List.mem_of_getElem? (i := 139) rfl))) (mvT hZ (hw _ (List.mem_of_getElem? (i := 140) rfl))) (mvT hZ (hw _ (List.mem_of_getElem? (i := 141) rfl))) (mvT hZ (hw _ (List.mem_of_getElem? (i := 142) rfl))) (mvT hZ (hw _ (List.mem_of_getElem? (i := 143) rfl))) (mvT hZ (hw _ (List.mem_of_getElem? (i := 144) rfl))) (mvT hZ (hw _ (List.mem_of_getElem? (i := 145) rfl))) (mvT hZ (hw _ (List.mem_of_getElem? (i := 146) rfl))) (by decide) (backOf (W := 0) (own_rmadd1 l Z aw hw [] dq b81 el k T82.heap n0 Z82 ⟨Ex82_dq, F82_elements_dq, F82_head_dq, F82_tail_dq, xa82_el, B0.2.2.2.2.2.2.2.2.2.2.2⟩ (Ins.of_exa Xp82 (hw _ (List.mem_of_getElem? (i := 155) rfl))) gd ge) hZ (hw _ (List.mem_of_getElem? (i := 147) rfl)) (hw _ (List.mem_of_getElem? (i := 59) rfl)) (by decide) (by decide)) q83a q83b q83c (g := (mkF m 206 #[.val (.ref a1), .val (.ref r1), .val (.ref r2), .val (.long j1), .second, .val (.long j2), .second, .val (.long j3), .second, .val (.ref it74), .unset, .unset, .unset] [(.ref b81), (.ref dq)])) rfl (by rw [hml]; rfl) (Steps.refl _) (argsL := [(.ref b81)]) (rest := []) (lenOf own_pd8 rfl) rfl (by show 2 * 0 + _ ≤ _; exact Nat.le_of_eq rfl) (hb hby own_d11_206) (fun _ _ => ⟨rfl, rfl, (by decide : 3 + 0 ≤ _), (by decide : 10 + 0 ≤ _)⟩)
    dsimp only [Pt.U, Pt.locs, Pt.cells, Pt.slots] at X83 l83 y83 z83 st83 hQ83
    subst l83 y83 z83
    obtain ⟨rfl, N83q, Kp83, Bp83⟩ := hQ83
    have N83 := Fr.app N82 N83q
    refine own_by (fun t k => st83.trans k) ?_
    have F83_tables_a1 := F82_tables_a1.keep Kp83 (ninS (Exa.ne Ex82_a1 Ex82_dq (by decide)) (ninS (own_Ar.ne Ex82_a1 xa82_el (hw _ (List.mem_of_getElem? (i := 33) rfl))) nin0))
    have F83_pivots_a1 := F82_pivots_a1.keep Kp83 (ninS (Exa.ne Ex82_a1 Ex82_dq (by decide)) (ninS (own_Ar.ne Ex82_a1 xa82_el (hw _ (List.mem_of_getElem? (i := 33) rfl))) nin0))
    have F83_pivotWrites_a1 := F82_pivotWrites_a1.keep Kp83 (ninS (Exa.ne Ex82_a1 Ex82_dq (by decide)) (ninS (own_Ar.ne Ex82_a1 xa82_el (hw _ (List.mem_of_getElem? (i := 33) rfl))) nin0))
    have F83_last_a1 := F82_last_a1.keep Kp83 (ninS (Exa.ne Ex82_a1 Ex82_dq (by decide)) (ninS (own_Ar.ne Ex82_a1 xa82_el (hw _ (List.mem_of_getElem? (i := 33) rfl))) nin0))
    have F83_modCount_hm := F82_modCount_hm.keep Kp83 (ninS (Exa.ne Ex82_hm Ex82_dq (by decide)) (ninS (own_Ar.ne Ex82_hm xa82_el (hw _ (List.mem_of_getElem? (i := 40) rfl))) nin0))
    have F83_table_hm := F82_table_hm.keep Kp83 (ninS (Exa.ne Ex82_hm Ex82_dq (by decide)) (ninS (own_Ar.ne Ex82_hm xa82_el (hw _ (List.mem_of_getElem? (i := 40) rfl))) nin0))
    have F83_modCount_r1 := F82_modCount_r1.keep Kp83 (ninS (Exa.ne Ex82_r1 Ex82_dq (by decide)) (ninS (own_Ar.ne Ex82_r1 xa82_el (hw _ (List.mem_of_getElem? (i := 7) rfl))) nin0))
    have F83_size_r1 := F82_size_r1.keep Kp83 (ninS (Exa.ne Ex82_r1 Ex82_dq (by decide)) (ninS (own_Ar.ne Ex82_r1 xa82_el (hw _ (List.mem_of_getElem? (i := 7) rfl))) nin0))
    have F83_modCount_r2 := F82_modCount_r2.keep Kp83 (ninS (Exa.ne Ex82_r2 Ex82_dq (by decide)) (ninS (own_Ar.ne Ex82_r2 xa82_el (hw _ (List.mem_of_getElem? (i := 7) rfl))) nin0))
    have F83_size_r2 := F82_size_r2.keep Kp83 (ninS (Exa.ne Ex82_r2 Ex82_dq (by decide)) (ninS (own_Ar.ne Ex82_r2 xa82_el (hw _ (List.mem_of_getElem? (i := 7) rfl))) nin0))
    have Ex83_a1 := Ex82_a1.keep Kp83
    have Ex83_hm := Ex82_hm.keep Kp83
    have Ex83_dq := Ex82_dq.keep Kp83
    have Ex83_r1 := Ex82_r1.keep Kp83
    have Ex83_r2 := Ex82_r2.keep Kp83
    have Ex83_b81 := Xp82.keep Kp83
    have K83 := K82.trans Kp83 (allS (Or.inl (by simp)) (allS (Or.inl (by simp)) (all0)))
    have Z83 := Nat.le_trans Z82 Kp83.1
    show own_Go p.tables e below K (T83.setTop (mkF m 211 #[.val (.ref a1), .val (.ref r1), .val (.ref r2), .val (.long j1), .second, .val (.long j2), .second, .val (.long j3), .second, .val (.ref it74), .unset, .unset, .unset] [(.int (1 : Int32))]))
    refine own_by (fun t k => XS.pop X83.here hx rfl (hb hby own_d11_211) rfl rfl k) ?_
    show own_Go p.tables e below K (T83.setTop (mkF m 212 #[.val (.ref a1), .val (.ref r1), .val (.ref r2), .val (.long j1), .second, .val (.long j2), .second, .val (.long j3), .second, .val (.ref it74), .unset, .unset, .unset] []))
    refine own_by (fun t k => XS.aloadN X83.here hx rfl (hb hby own_d11_212) rfl rfl k) ?_
    show own_Go p.tables e below K (T83.setTop (mkF m 213 #[.val (.ref a1), .val (.ref r1), .val (.ref r2), .val (.long j1), .second, .val (.long j2), .second, .val (.long j3), .second, .val (.ref it74), .unset, .unset, .unset] [(.ref a1)]))
    refine own_by (fun t k => XS.dup X83.here hx rfl (hb hby own_d11_213) rfl rfl k) ?_
    show own_Go p.tables e below K (T83.setTop (mkF m 214 #[.val (.ref a1), .val (.ref r1), .val (.ref r2), .val (.long j1), .second, .val (.long j2), .second, .val (.long j3), .second, .val (.ref it74), .unset, .unset, .unset] [(.ref a1), (.ref a1)]))
    obtain ⟨T84, X84, e84, st84⟩ := getF X83 hx hZ hown (host := "") (Or.inl (hw _ (List.mem_of_getElem? (i := 161) rfl))) Via.refl rfl F83_pivotWrites_a1 (g := (mkF m 214 #[.val (.ref a1), .val (.ref r1), .val (.ref r2), .val (.long j1), .second, .val (.long j2), .second, .val (.long j3), .second, .val (.ref it74), .unset, .unset, .unset] [(.ref a1), (.ref a1)])) rfl rfl (hb hby own_d11_214)
    refine own_by st84 ?_
    show own_Go p.tables e below K (T84.setTop (mkF m 217 #[.val (.ref a1), .val (.ref r1), .val (.ref r2), .val (.long j1), .second, .val (.long j2), .second, .val (.long j3), .second, .val (.ref it74), .unset, .unset, .unset] [(.long (0 : Int64)), (.ref a1)]))
    refine own_by (fun t k => XS.aloadN X84.here hx rfl (hb hby own_d11_217) rfl rfl k) ?_
    show own_Go p.tables e below K (T84.setTop (mkF m 218 #[.val (.ref a1), .val (.ref r1), .val (.ref r2), .val (.long j1), .second, .val (.long j2), .second, .val (.long j3), .second, .val (.ref it74), .unset, .unset, .unset] [(.ref r2), (.long (0 : Int64)), (.ref a1)]))
    obtain ⟨cq85, kq85, q85a, q85b, q85c⟩ := isOf hZ e84 Ex83_r2
    obtain ⟨_, _, ⟨T85, L85, k85, n85⟩, -, X85, ⟨Lc85, hQ85, l85, y85, z85⟩, st85⟩ := X84.interfaceBack hx (xi := (⟨"java/util/List", "size", "()I"⟩ : MethodName)) (y := (⟨"java/util/ArrayList", "size", "()I"⟩ : MethodName)) hown (mvT hZ (hw _ (List.mem_of_getElem? (i := 163) rfl))) (mvT hZ (hw _ (List.mem_of_getElem? (i := 164) rfl))) (mvT hZ (hw _ (List.mem_of_getElem? (i := 165) rfl))) (mvT hZ (hw _ (List.mem_of_getElem? (i := 166) rfl))) (mvT hZ (hw _ (List.mem_of_getElem? (i := 167) rfl))) (mvT hZ (hw _ (List.mem_of_getElem? (i := 168) rfl))) (mvT hZ (hw _ (List.mem_of_getElem? (i := 169) rfl))) (mvT hZ (hw _ (List.mem_of_getElem? (i := 90) rfl))) (by decide) (backOf (W := 3) (own_rmsiz l Z aw hw [] r2 T83.heap n0 Z83 ⟨Ex83_r2, F83_modCount_r2, F83_size_r2⟩) hZ (hw _ (List.mem_of_getElem? (i := 170) rfl)) (hw _ (List.mem_of_getElem? (i := 8) rfl)) (by decide) (by decide)) q85a q85b q85c (g := (mkF m 218 #[.val (.ref a1), .val (.ref r1), .val (.ref r2), .val (.long j1), .second, .val (.long j2), .second, .val (.long j3), .second, .val (.ref it74), .unset, .unset, .unset] [(.ref r2), (.long (0 : Int64)), (.ref a1)])) rfl (by rw [hml]; rfl) (Steps.refl _) (argsL := []) (rest := [(.long (0 : Int64)), (.ref a1)]) (lenOf own_pd9 rfl) rfl (by show 2 * 0 + _ ≤ _; exact Nat.le_of_eq rfl) (hb hby own_d11_218) (fun _ _ => ⟨rfl, e84, (by decide : 3 + 0 ≤ _), (by decide : 10 + 0 ≤ _)⟩)
    dsimp only [Pt.U, Pt.locs, Pt.cells, Pt.slots] at X85 l85 y85 z85 st85 hQ85
    subst l85 y85 z85
    obtain ⟨rfl, N85q, e85⟩ := hQ85
    have N85 := Fr.app N83 N85q
    refine own_by (fun t k => st85.trans k) ?_
    show own_Go p.tables e below K (T85.setTop (mkF m 223 #[.val (.ref a1), .val (.ref r1), .val (.ref r2), .val (.long j1), .second, .val (.long j2), .second, .val (.long j3), .second, .val (.ref it74), .unset, .unset, .unset] [(.int (0 : Int32)), (.long (0 : Int64)), (.ref a1)]))
    refine own_by (fun t k => XS.i2l X85.here hx rfl (hb hby own_d11_223) rfl k) ?_
    show own_Go p.tables e below K (T85.setTop (mkF m 224 #[.val (.ref a1), .val (.ref r1), .val (.ref r2), .val (.long j1), .second, .val (.long j2), .second, .val (.long j3), .second, .val (.ref it74), .unset, .unset, .unset] [(.long ((0 : Int32).toInt64)), (.long (0 : Int64)), (.ref a1)]))
    refine own_by (fun t k => XS.ladd X85.here hx rfl (hb hby own_d11_224) rfl k) ?_
    show own_Go p.tables e below K (T85.setTop (mkF m 225 #[.val (.ref a1), .val (.ref r1), .val (.ref r2), .val (.long j1), .second, .val (.long j2), .second, .val (.long j3), .second, .val (.ref it74), .unset, .unset, .unset] [(.long (0 : Int64)), (.ref a1)]))
    obtain ⟨T86, h86, X86, e86, W86, st86⟩ := putF X85 hx hZ hown (host := "") (Or.inl (hw _ (List.mem_of_getElem? (i := 161) rfl))) Via.refl e85 F83_pivotWrites_a1 Ex83_a1 (Or.inl (hw _ (List.mem_of_getElem? (i := 162) rfl))) (hw _ (List.mem_of_getElem? (i := 33) rfl)) (ty := .long) (by decide) rfl rfl (g := (mkF m 225 #[.val (.ref a1), .val (.ref r1), .val (.ref r2), .val (.long j1), .second, .val (.long j2), .second, .val (.long j3), .second, .val (.ref it74), .unset, .unset, .unset] [(.long (0 : Int64)), (.ref a1)])) rfl rfl (hb hby own_d11_225)
    refine own_by st86 ?_
    have F86_tables_a1 := F83_tables_a1.other W86 (Or.inr (slot_ne (Or.inr (hw _ (List.mem_of_getElem? (i := 56) rfl))) (Or.inl (hw _ (List.mem_of_getElem? (i := 162) rfl))) (by decide) (t := (.object "java/util/Map")) (t' := .long) (by decide) (by decide)))
    have F86_pivots_a1 := F83_pivots_a1.other W86 (Or.inr (slot_ne (Or.inr (hw _ (List.mem_of_getElem? (i := 70) rfl))) (Or.inl (hw _ (List.mem_of_getElem? (i := 162) rfl))) (by decide) (t := (.object "java/util/Deque")) (t' := .long) (by decide) (by decide)))
    have F86_pivotWrites_a1 := F83_pivotWrites_a1.same W86
    have F86_last_a1 := F83_last_a1.other W86 (Or.inr (slot_ne (Or.inl (hw _ (List.mem_of_getElem? (i := 77) rfl))) (Or.inl (hw _ (List.mem_of_getElem? (i := 162) rfl))) (by decide) (t := .long) (t' := .long) (by decide) (by decide)))
    have F86_modCount_hm := F83_modCount_hm.other W86 (Or.inl (Exa.ne Ex83_hm Ex83_a1 (by decide)))
    have F86_table_hm := F83_table_hm.other W86 (Or.inl (Exa.ne Ex83_hm Ex83_a1 (by decide)))
    have F86_modCount_r1 := F83_modCount_r1.other W86 (Or.inl (Exa.ne Ex83_r1 Ex83_a1 (by decide)))
    have F86_size_r1 := F83_size_r1.other W86 (Or.inl (Exa.ne Ex83_r1 Ex83_a1 (by decide)))
    have F86_modCount_r2 := F83_modCount_r2.other W86 (Or.inl (Exa.ne Ex83_r2 Ex83_a1 (by decide)))
    have F86_size_r2 := F83_size_r2.other W86 (Or.inl (Exa.ne Ex83_r2 Ex83_a1 (by decide)))
    have F86_elements_dq := Bp83.2.1.other W86 (Or.inl (Exa.ne Bp83.1 Ex83_a1 (by decide)))
    have F86_head_dq := Bp83.2.2.1.other W86 (Or.inl (Exa.ne Bp83.1 Ex83_a1 (by decide)))
    have F86_tail_dq := Bp83.2.2.2.1.other W86 (Or.inl (Exa.ne Bp83.1 Ex83_a1 (by decide)))
    have xa86_el := Bp83.2.2.2.2.1.other W86 (Ne.symm (own_Ar.ne Ex83_a1 Bp83.2.2.2.2.1 (hw _ (List.mem_of_getElem? (i := 33) rfl))))
    have Ex86_a1 := Ex83_a1.wr W86
    have Ex86_hm := Ex83_hm.wr W86
    have Ex86_dq := Bp83.1.wr W86
    have Ex86_r1 := Ex83_r1.wr W86
    have Ex86_r2 := Ex83_r2.wr W86
    have Ex86_b81 := Ex83_b81.wr W86
    have K86 := K83.wr W86 (Or.inl (by simp))
    have Z86 := Nat.le_trans Z83 (Keep.of_wr W86).1
    have N86 := Fr.snoc X86 N85 ga
    show own_Go p.tables e below K (T86.setTop (mkF m 228 #[.val (.ref a1), .val (.ref r1), .val (.ref r2), .val (.long j1), .second, .val (.long j2), .second, .val (.long j3), .second, .val (.ref it74), .unset, .unset, .unset] []))
    refine own_by (fun t k => XS.aloadN X86.here hx rfl (hb hby own_d11_228) rfl rfl k) ?_
    show own_Go p.tables e below K (T86.setTop (mkF m 229 #[.val (.ref a1), .val (.ref r1), .val (.ref r2), .val (.long j1), .second, .val (.long j2), .second, .val (.long j3), .second, .val (.ref it74), .unset, .unset, .unset] [(.ref a1)]))
    obtain ⟨T87, X87, e87, st87⟩ := getF X86 hx hZ hown (host := "") (Or.inl (hw _ (List.mem_of_getElem? (i := 161) rfl))) Via.refl e86 F86_pivotWrites_a1 (g := (mkF m 229 #[.val (.ref a1), .val (.ref r1), .val (.ref r2), .val (.long j1), .second, .val (.long j2), .second, .val (.long j3), .second, .val (.ref it74), .unset, .unset, .unset] [(.ref a1)])) rfl rfl (hb hby own_d11_229)
    refine own_by st87 ?_
    show own_Go p.tables e below K (T87.setTop (mkF m 232 #[.val (.ref a1), .val (.ref r1), .val (.ref r2), .val (.long j1), .second, .val (.long j2), .second, .val (.long j3), .second, .val (.ref it74), .unset, .unset, .unset] [(.long (0 : Int64))]))
    refine own_by (fun t k => X87.ldc2Long hx hown (mvT hZ (hw _ (List.mem_of_getElem? (i := 172) rfl))) (g := (mkF m 232 #[.val (.ref a1), .val (.ref r1), .val (.ref r2), .val (.long j1), .second, .val (.long j2), .second, .val (.long j3), .second, .val (.ref it74), .unset, .unset, .unset] [(.long (0 : Int64))])) rfl (hb hby own_d11_232) _ k) ?_
    show own_Go p.tables e below K (T87.setTop (mkF m 235 #[.val (.ref a1), .val (.ref r1), .val (.ref r2), .val (.long j1), .second, .val (.long j2), .second, .val (.long j3), .second, .val (.ref it74), .unset, .unset, .unset] [(.long (1000 : Int64)), (.long (0 : Int64))]))
    refine own_by (fun t k => XS.lcmp X87.here hx rfl (hb hby own_d11_235) rfl k) ?_
    show own_Go p.tables e below K (T87.setTop (mkF m 236 #[.val (.ref a1), .val (.ref r1), .val (.ref r2), .val (.long j1), .second, .val (.long j2), .second, .val (.long j3), .second, .val (.ref it74), .unset, .unset, .unset] [(.int (lcmpW (0 : Int64) (1000 : Int64)))]))
    have hc236 : ¬ ((1000 : Int64) < (0 : Int64)) := by decide
    refine own_by (fun t k => XS.ifYes X87.here hx rfl (pc0 := 236) (pc' := 350) rfl (hb hby own_d11_236) rfl (own_lle hc236).2 (by decide) (by decide) k) ?_
    show own_Go p.tables e below K (T87.setTop (mkF m 350 #[.val (.ref a1), .val (.ref r1), .val (.ref r2), .val (.long j1), .second, .val (.long j2), .second, .val (.long j3), .second, .val (.ref it74), .unset, .unset, .unset] []))
    exact own_retV X87 hx hret (hb hby own_d11_350) (hK none X87 (fun _ => rfl) (by rw [e87]; exact ⟨rfl, N86, K86, Or.inr ⟨Ex86_a1, F86_tables_a1, F86_pivots_a1, F86_pivotWrites_a1, F86_last_a1, ⟨Ex86_hm, F86_modCount_hm, F86_table_hm⟩, ⟨Ex86_dq, F86_elements_dq, F86_head_dq, F86_tail_dq, xa86_el, B0.2.2.2.2.2.2.2.2.2.2.2⟩⟩⟩) (by decide) (by decide))
theorem own_d23_0 : decode jdk_69_method_22_code 0 = .ok (.aload_n 0, 1) := by decide +kernel
theorem own_d23_1 : decode jdk_69_method_22_code 1 = .ok (.dup, 1) := by decide +kernel
theorem own_d23_2 : decode jdk_69_method_22_code 2 = .ok (.getfield 202, 3) := by decide +kernel
theorem own_d23_5 : decode jdk_69_method_22_code 5 = .ok (.iconst 1, 1) := by decide +kernel
theorem own_d23_6 : decode jdk_69_method_22_code 6 = .ok (.iadd, 1) := by decide +kernel
theorem own_d23_7 : decode jdk_69_method_22_code 7 = .ok (.putfield 202, 3) := by decide +kernel
theorem own_d23_10 : decode jdk_69_method_22_code 10 = .ok (.aload_n 0, 1) := by decide +kernel
theorem own_d23_11 : decode jdk_69_method_22_code 11 = .ok (.getfield 105, 3) := by decide +kernel
theorem own_d23_14 : decode jdk_69_method_22_code 14 = .ok (.dup, 1) := by decide +kernel
theorem own_d23_15 : decode jdk_69_method_22_code 15 = .ok (.astore_n 1, 1) := by decide +kernel
theorem own_d23_16 : decode jdk_69_method_22_code 16 = .ok (.ifnull 33, 3) := by decide +kernel
theorem own_d23_49 : decode jdk_69_method_22_code 49 = .ok (.return_, 1) := by decide +kernel
theorem own_efhmc (m : MethodId) (a1 : Addr) : entryFrame m #[(.ref a1)] 3 = mkF m 0 #[.val (.ref a1), .unset, .unset] [] := by first | (simp [entryFrame, mkF, argsToLocals, Value.category]; done) | rfl
def own_Qhmc (Z : State) (a1 : Addr) (mc : Int32) (h0 : Heap) (n0 : Nat) (v : Option Value) (h : Heap) (L : List Loc) : Prop := v = none ∧ Fr n0 L ∧ Keep h0 h [a1] ∧ ∃ mc', own_HM Z h a1 mc'
set_option maxRecDepth 65536 in
set_option maxHeartbeats 40000000 in
theorem own_rmhmc (l : Launch) (Z : State) (aw : Array Value) (hw : ∀ d ∈ tables_1, d.before aw Z = true) (ws : List Jvm.Cond) (a1 : Addr) (mc : Int32) (h0 : Heap) (n0 : Nat) (Z0 : n0 ≤ h0.size) (B0 : own_HM Z h0 a1 mc) (ga : n0 ≤ a1) :
    MetFree l (⟨"java/util/HashMap", "clear", "()V"⟩ : MethodName) (head1 (Jvm.Cond.code (⟨"java/util/HashMap", "clear", "()V"⟩ : MethodName) jdk_69_method_22_code 3 none :: ws) ({ frames := 0, cells := 0, slots := 0, locals := 0 } : Room)) (fun a U => a = #[(.ref a1)] ∧ Z.Warmed39 U.vm ∧ U.heap = h0) (fun _ _ _ _ _ => True) (fun _ U o U' => ∃ v L, o = .returned v ∧ own_Qhmc Z a1 mc h0 n0 v U'.heap L ∧ FrameEnd U o U' L ({ frames := 0, cells := 0, slots := 0, locals := 0 } : Room).cells ({ frames := 0, cells := 0, slots := 0, locals := 0 } : Room).slots) := by
  refine own_met (Q := own_Qhmc Z a1 mc h0 n0) (plainFor_of_name own_pn7) ?_
  intro p e s m below meth c s₁ K hx hby hml hown hnm hret hZ X0 e0 hK
  have hown : s.vm.findClass "java/util/HashMap" = some m.cls := hown
  have N0 := Fr.nil n0
  refine own_by (fun t k => castTop (own_efhmc m a1) k) ?_
  show own_Go p.tables e below K (s₁.setTop (mkF m 0 #[.val (.ref a1), .unset, .unset] []))
  refine own_by (fun t k => XS.aloadN X0.here hx rfl (hb hby own_d23_0) rfl rfl k) ?_
  show own_Go p.tables e below K (s₁.setTop (mkF m 1 #[.val (.ref a1), .unset, .unset] [(.ref a1)]))
  refine own_by (fun t k => XS.dup X0.here hx rfl (hb hby own_d23_1) rfl rfl k) ?_
  show own_Go p.tables e below K (s₁.setTop (mkF m 2 #[.val (.ref a1), .unset, .unset] [(.ref a1), (.ref a1)]))
  obtain ⟨T88, X88, e88, st88⟩ := getF X0 hx hZ hown (host := "") (Or.inl (hw _ (List.mem_of_getElem? (i := 193) rfl))) Via.refl e0 B0.2.1 (g := (mkF m 2 #[.val (.ref a1), .unset, .unset] [(.ref a1), (.ref a1)])) rfl rfl (hb hby own_d23_2)
  refine own_by st88 ?_
  show own_Go p.tables e below K (T88.setTop (mkF m 5 #[.val (.ref a1), .unset, .unset] [(.int mc), (.ref a1)]))
  refine own_by (fun t k => XS.iconst X88.here hx rfl (hb hby own_d23_5) k) ?_
  show own_Go p.tables e below K (T88.setTop (mkF m 6 #[.val (.ref a1), .unset, .unset] [(.int (1 : Int32)), (.int mc), (.ref a1)]))
  refine own_by (fun t k => XS.iadd X88.here hx rfl (hb hby own_d23_6) rfl k) ?_
  show own_Go p.tables e below K (T88.setTop (mkF m 7 #[.val (.ref a1), .unset, .unset] [(.int (mc + (1 : Int32))), (.ref a1)]))
  obtain ⟨T89, h89, X89, e89, W89, st89⟩ := putF X88 hx hZ hown (host := "") (Or.inl (hw _ (List.mem_of_getElem? (i := 193) rfl))) Via.refl e88 B0.2.1 B0.1 (Or.inl (hw _ (List.mem_of_getElem? (i := 194) rfl))) (hw _ (List.mem_of_getElem? (i := 40) rfl)) (ty := .int) (by decide) rfl rfl (g := (mkF m 7 #[.val (.ref a1), .unset, .unset] [(.int (mc + (1 : Int32))), (.ref a1)])) rfl rfl (hb hby own_d23_7)
  refine own_by st89 ?_
  have F89_modCount_a1 := B0.2.1.same W89
  have F89_table_a1 := B0.2.2.other W89 (Or.inr (slot_ne (Or.inl (hw _ (List.mem_of_getElem? (i := 196) rfl))) (Or.inl (hw _ (List.mem_of_getElem? (i := 194) rfl))) (by decide) (t := (.array (.object "java/util/HashMap$Node"))) (t' := .int) (by decide) (by decide)))
  have Ex89_a1 := B0.1.wr W89
  have K89 := (Keep.refl h0 [a1]).wr W89 (Or.inl (by simp))
  have Z89 := Nat.le_trans Z0 (Keep.of_wr W89).1
  have N89 := Fr.snoc X89 N0 ga
  show own_Go p.tables e below K (T89.setTop (mkF m 10 #[.val (.ref a1), .unset, .unset] []))
  refine own_by (fun t k => XS.aloadN X89.here hx rfl (hb hby own_d23_10) rfl rfl k) ?_
  show own_Go p.tables e below K (T89.setTop (mkF m 11 #[.val (.ref a1), .unset, .unset] [(.ref a1)]))
  obtain ⟨T90, X90, e90, st90⟩ := getF X89 hx hZ hown (host := "") (Or.inl (hw _ (List.mem_of_getElem? (i := 195) rfl))) Via.refl e89 F89_table_a1 (g := (mkF m 11 #[.val (.ref a1), .unset, .unset] [(.ref a1)])) rfl rfl (hb hby own_d23_11)
  refine own_by st90 ?_
  show own_Go p.tables e below K (T90.setTop (mkF m 14 #[.val (.ref a1), .unset, .unset] [.null]))
  refine own_by (fun t k => XS.dup X90.here hx rfl (hb hby own_d23_14) rfl rfl k) ?_
  show own_Go p.tables e below K (T90.setTop (mkF m 15 #[.val (.ref a1), .unset, .unset] [.null, .null]))
  refine own_by (fun t k => XS.astoreN X90.here hx rfl (hb hby own_d23_15) rfl rfl (l' := #[.val (.ref a1), .val .null, .unset]) rfl k) ?_
  show own_Go p.tables e below K (T90.setTop (mkF m 16 #[.val (.ref a1), .val .null, .unset] [.null]))
  refine own_by (fun t k => XS.ifnullYes X90.here hx rfl (pc0 := 16) (pc' := 49) rfl (hb hby own_d23_16) rfl (by decide) (by decide) k) ?_
  show own_Go p.tables e below K (T90.setTop (mkF m 49 #[.val (.ref a1), .val .null, .unset] []))
  exact own_retV X90 hx hret (hb hby own_d23_49) (hK none X90 (fun _ => rfl) (by rw [e90]; exact ⟨rfl, N89, K89, _, ⟨Ex89_a1, F89_modCount_a1, F89_table_a1⟩⟩) (by decide) (by decide))
theorem own_d25_0 : decode jdk_21_method_54_code 0 = .ok (.iload_n 1, 1) := by decide +kernel
theorem own_d25_1 : decode jdk_21_method_54_code 1 = .ok (.iload_n 2, 1) := by decide +kernel
theorem own_d25_2 : decode jdk_21_method_54_code 2 = .ok (.if_icmp .gt 7, 3) := by decide +kernel
theorem own_d25_5 : decode jdk_21_method_54_code 5 = .ok (.iload_n 2, 1) := by decide +kernel
theorem own_d25_6 : decode jdk_21_method_54_code 6 = .ok (.goto 5, 3) := by decide +kernel
theorem own_d25_11 : decode jdk_21_method_54_code 11 = .ok (.istore_n 3, 1) := by decide +kernel
theorem own_d25_12 : decode jdk_21_method_54_code 12 = .ok (.iload_n 1, 1) := by decide +kernel
theorem own_d25_13 : decode jdk_21_method_54_code 13 = .ok (.iload_n 3, 1) := by decide +kernel
theorem own_d25_14 : decode jdk_21_method_54_code 14 = .ok (.if_icmp .ge 13, 3) := by decide +kernel
theorem own_d25_27 : decode jdk_21_method_54_code 27 = .ok (.iload_n 3, 1) := by decide +kernel
theorem own_d25_28 : decode jdk_21_method_54_code 28 = .ok (.iload_n 2, 1) := by decide +kernel
theorem own_d25_29 : decode jdk_21_method_54_code 29 = .ok (.if_icmp .ne 6, 3) := by decide +kernel
theorem own_d25_32 : decode jdk_21_method_54_code 32 = .ok (.goto 10, 3) := by decide +kernel
theorem own_d25_42 : decode jdk_21_method_54_code 42 = .ok (.return_, 1) := by decide +kernel
theorem own_efcir0 (m : MethodId) (el : Addr) : entryFrame m #[(.ref el), (.int (0 : Int32)), (.int (0 : Int32))] 4 = mkF m 0 #[.val (.ref el), .val (.int (0 : Int32)), .val (.int (0 : Int32)), .unset] [] := by first | (simp [entryFrame, mkF, argsToLocals, Value.category]; done) | rfl
def own_Qcir0 (Z : State) (el : Addr) (k : ClassId) (h0 : Heap) (n0 : Nat) (v : Option Value) (h : Heap) (L : List Loc) : Prop := v = none ∧ Fr n0 L ∧ Keep h0 h [el] ∧ own_Ar Z h el k
set_option maxRecDepth 65536 in
set_option maxHeartbeats 40000000 in
theorem own_rmcir0 (l : Launch) (Z : State) (aw : Array Value) (hw : ∀ d ∈ tables_1, d.before aw Z = true) (ws : List Jvm.Cond) (el : Addr) (k : ClassId) (h0 : Heap) (n0 : Nat) (Z0 : n0 ≤ h0.size) (B0 : own_Ar Z h0 el k) (ge : n0 ≤ el) :
    MetFree l (⟨"java/util/ArrayDeque", "circularClear", "([Ljava/lang/Object;II)V"⟩ : MethodName) (head1 (Jvm.Cond.code (⟨"java/util/ArrayDeque", "circularClear", "([Ljava/lang/Object;II)V"⟩ : MethodName) jdk_21_method_54_code 4 none :: ws) ({ frames := 0, cells := 0, slots := 0, locals := 0 } : Room)) (fun a U => a = #[(.ref el), (.int (0 : Int32)), (.int (0 : Int32))] ∧ Z.Warmed39 U.vm ∧ U.heap = h0) (fun _ _ _ _ _ => True) (fun _ U o U' => ∃ v L, o = .returned v ∧ own_Qcir0 Z el k h0 n0 v U'.heap L ∧ FrameEnd U o U' L ({ frames := 0, cells := 0, slots := 0, locals := 0 } : Room).cells ({ frames := 0, cells := 0, slots := 0, locals := 0 } : Room).slots) := by
  refine own_met (Q := own_Qcir0 Z el k h0 n0) (plainFor_of_name own_pn9) ?_
  intro p e s m below meth c s₁ K hx hby hml hown hnm hret hZ X0 e0 hK
  have hown : s.vm.findClass "java/util/ArrayDeque" = some m.cls := hown
  have N0 := Fr.nil n0
  refine own_by (fun t k => castTop (own_efcir0 m el) k) ?_
  show own_Go p.tables e below K (s₁.setTop (mkF m 0 #[.val (.ref el), .val (.int (0 : Int32)), .val (.int (0 : Int32)), .unset] []))
  refine own_by (fun t k => XS.iloadN X0.here hx rfl (hb hby own_d25_0) rfl k) ?_
  show own_Go p.tables e below K (s₁.setTop (mkF m 1 #[.val (.ref el), .val (.int (0 : Int32)), .val (.int (0 : Int32)), .unset] [(.int (0 : Int32))]))
  refine own_by (fun t k => XS.iloadN X0.here hx rfl (hb hby own_d25_1) rfl k) ?_
  show own_Go p.tables e below K (s₁.setTop (mkF m 2 #[.val (.ref el), .val (.int (0 : Int32)), .val (.int (0 : Int32)), .unset] [(.int (0 : Int32)), (.int (0 : Int32))]))
  have hc2 : ¬ ((0 : Int32) < (0 : Int32)) := by decide
  refine own_by (fun t k => XS.icmpNo X0.here hx rfl (hb hby own_d25_2) rfl (flt hc2).2.2.1 k) ?_
  show own_Go p.tables e below K (s₁.setTop (mkF m 5 #[.val (.ref el), .val (.int (0 : Int32)), .val (.int (0 : Int32)), .unset] []))
  refine own_by (fun t k => XS.iloadN X0.here hx rfl (hb hby own_d25_5) rfl k) ?_
  show own_Go p.tables e below K (s₁.setTop (mkF m 6 #[.val (.ref el), .val (.int (0 : Int32)), .val (.int (0 : Int32)), .unset] [(.int (0 : Int32))]))
  refine own_by (fun t k => XS.goto X0.here hx rfl (pc0 := 6) (pc' := 11) rfl (hb hby own_d25_6) (by decide) (by decide) k) ?_
  show own_Go p.tables e below K (s₁.setTop (mkF m 11 #[.val (.ref el), .val (.int (0 : Int32)), .val (.int (0 : Int32)), .unset] [(.int (0 : Int32))]))
  refine own_by (fun t k => XS.istoreN X0.here hx rfl (hb hby own_d25_11) rfl (l' := #[.val (.ref el), .val (.int (0 : Int32)), .val (.int (0 : Int32)), .val (.int (0 : Int32))]) rfl k) ?_
  show own_Go p.tables e below K (s₁.setTop (mkF m 12 #[.val (.ref el), .val (.int (0 : Int32)), .val (.int (0 : Int32)), .val (.int (0 : Int32))] []))
  refine own_by (fun t k => XS.iloadN X0.here hx rfl (hb hby own_d25_12) rfl k) ?_
  show own_Go p.tables e below K (s₁.setTop (mkF m 13 #[.val (.ref el), .val (.int (0 : Int32)), .val (.int (0 : Int32)), .val (.int (0 : Int32))] [(.int (0 : Int32))]))
  refine own_by (fun t k => XS.iloadN X0.here hx rfl (hb hby own_d25_13) rfl k) ?_
  show own_Go p.tables e below K (s₁.setTop (mkF m 14 #[.val (.ref el), .val (.int (0 : Int32)), .val (.int (0 : Int32)), .val (.int (0 : Int32))] [(.int (0 : Int32)), (.int (0 : Int32))]))
  have hc14 : ¬ ((0 : Int32) < (0 : Int32)) := by decide
  refine own_by (fun t k => XS.icmpYes X0.here hx rfl (pc0 := 14) (pc' := 27) rfl (hb hby own_d25_14) rfl (flt hc14).2.1 (by decide) (by decide) k) ?_
  show own_Go p.tables e below K (s₁.setTop (mkF m 27 #[.val (.ref el), .val (.int (0 : Int32)), .val (.int (0 : Int32)), .val (.int (0 : Int32))] []))
  refine own_by (fun t k => XS.iloadN X0.here hx rfl (hb hby own_d25_27) rfl k) ?_
  show own_Go p.tables e below K (s₁.setTop (mkF m 28 #[.val (.ref el), .val (.int (0 : Int32)), .val (.int (0 : Int32)), .val (.int (0 : Int32))] [(.int (0 : Int32))]))
  refine own_by (fun t k => XS.iloadN X0.here hx rfl (hb hby own_d25_28) rfl k) ?_
  show own_Go p.tables e below K (s₁.setTop (mkF m 29 #[.val (.ref el), .val (.int (0 : Int32)), .val (.int (0 : Int32)), .val (.int (0 : Int32))] [(.int (0 : Int32)), (.int (0 : Int32))]))
  have hc29 : (0 : Int32) = (0 : Int32) := by decide
  refine own_by (fun t k => XS.icmpNo X0.here hx rfl (hb hby own_d25_29) rfl (teq hc29).2 k) ?_
  show own_Go p.tables e below K (s₁.setTop (mkF m 32 #[.val (.ref el), .val (.int (0 : Int32)), .val (.int (0 : Int32)), .val (.int (0 : Int32))] []))
  refine own_by (fun t k => XS.goto X0.here hx rfl (pc0 := 32) (pc' := 42) rfl (hb hby own_d25_32) (by decide) (by decide) k) ?_
  show own_Go p.tables e below K (s₁.setTop (mkF m 42 #[.val (.ref el), .val (.int (0 : Int32)), .val (.int (0 : Int32)), .val (.int (0 : Int32))] []))
  exact own_retV X0 hx hret (hb hby own_d25_42) (hK none X0 (fun _ => rfl) (by rw [e0]; exact ⟨rfl, N0, (Keep.refl h0 [el]), B0⟩) (by decide) (by decide))
theorem own_pd10 : parseMethodDescriptor "([Ljava/lang/Object;II)V" = some ⟨[(.array (.object "java/lang/Object")), .int, .int], none⟩ := by decide +kernel
theorem own_d24_0 : decode jdk_21_method_53_code 0 = .ok (.aload_n 0, 1) := by decide +kernel
theorem own_d24_1 : decode jdk_21_method_53_code 1 = .ok (.getfield 3, 3) := by decide +kernel
theorem own_d24_4 : decode jdk_21_method_53_code 4 = .ok (.aload_n 0, 1) := by decide +kernel
theorem own_d24_5 : decode jdk_21_method_53_code 5 = .ok (.getfield 24, 3) := by decide +kernel
theorem own_d24_8 : decode jdk_21_method_53_code 8 = .ok (.aload_n 0, 1) := by decide +kernel
theorem own_d24_9 : decode jdk_21_method_53_code 9 = .ok (.getfield 20, 3) := by decide +kernel
theorem own_d24_12 : decode jdk_21_method_53_code 12 = .ok (.invokestatic 181, 3) := by decide +kernel
theorem own_d24_15 : decode jdk_21_method_53_code 15 = .ok (.aload_n 0, 1) := by decide +kernel
theorem own_d24_16 : decode jdk_21_method_53_code 16 = .ok (.aload_n 0, 1) := by decide +kernel
theorem own_d24_17 : decode jdk_21_method_53_code 17 = .ok (.iconst 0, 1) := by decide +kernel
theorem own_d24_18 : decode jdk_21_method_53_code 18 = .ok (.dup_x1, 1) := by decide +kernel
theorem own_d24_19 : decode jdk_21_method_53_code 19 = .ok (.putfield 20, 3) := by decide +kernel
theorem own_d24_22 : decode jdk_21_method_53_code 22 = .ok (.putfield 24, 3) := by decide +kernel
theorem own_d24_25 : decode jdk_21_method_53_code 25 = .ok (.return_, 1) := by decide +kernel
theorem own_efdqc0 (m : MethodId) (a1 : Addr) : entryFrame m #[(.ref a1)] 1 = mkF m 0 #[.val (.ref a1)] [] := by first | (simp [entryFrame, mkF, argsToLocals, Value.category]; done) | rfl
def own_Qdqc0 (Z : State) (a1 : Addr) (el : Addr) (k : ClassId) (h0 : Heap) (n0 : Nat) (v : Option Value) (h : Heap) (L : List Loc) : Prop := v = none ∧ Fr n0 L ∧ Keep h0 h [a1, el] ∧ own_DQ Z h a1 el k 0
set_option maxRecDepth 65536 in
set_option maxHeartbeats 40000000 in
theorem own_rmdqc0 (l : Launch) (Z : State) (aw : Array Value) (hw : ∀ d ∈ tables_1, d.before aw Z = true) (ws : List Jvm.Cond) (a1 : Addr) (el : Addr) (k : ClassId) (h0 : Heap) (n0 : Nat) (Z0 : n0 ≤ h0.size) (B0 : own_DQ Z h0 a1 el k (0 : Int32)) (ga : n0 ≤ a1) (ge : n0 ≤ el) :
    MetFree l (⟨"java/util/ArrayDeque", "clear", "()V"⟩ : MethodName) (head1 (Jvm.Cond.code (⟨"java/util/ArrayDeque", "clear", "()V"⟩ : MethodName) jdk_21_method_53_code 1 none :: ws) ({ frames := 1, cells := 0, slots := 0, locals := 20 } : Room)) (fun a U => a = #[(.ref a1)] ∧ Z.Warmed39 U.vm ∧ U.heap = h0) (fun _ _ _ _ _ => True) (fun _ U o U' => ∃ v L, o = .returned v ∧ own_Qdqc0 Z a1 el k h0 n0 v U'.heap L ∧ FrameEnd U o U' L ({ frames := 1, cells := 0, slots := 0, locals := 20 } : Room).cells ({ frames := 1, cells := 0, slots := 0, locals := 20 } : Room).slots) := by
  refine own_met (Q := own_Qdqc0 Z a1 el k h0 n0) (plainFor_of_name own_pn9) ?_
  intro p e s m below meth c s₁ K hx hby hml hown hnm hret hZ X0 e0 hK
  have hown : s.vm.findClass "java/util/ArrayDeque" = some m.cls := hown
  have N0 := Fr.nil n0
  refine own_by (fun t k => castTop (own_efdqc0 m a1) k) ?_
  show own_Go p.tables e below K (s₁.setTop (mkF m 0 #[.val (.ref a1)] []))
  refine own_by (fun t k => XS.aloadN X0.here hx rfl (hb hby own_d24_0) rfl rfl k) ?_
  show own_Go p.tables e below K (s₁.setTop (mkF m 1 #[.val (.ref a1)] [(.ref a1)]))
  obtain ⟨T91, X91, e91, st91⟩ := getF X0 hx hZ hown (host := "") (Or.inl (hw _ (List.mem_of_getElem? (i := 67) rfl))) Via.refl e0 B0.2.1 (g := (mkF m 1 #[.val (.ref a1)] [(.ref a1)])) rfl rfl (hb hby own_d24_1)
  refine own_by st91 ?_
  show own_Go p.tables e below K (T91.setTop (mkF m 4 #[.val (.ref a1)] [(.ref el)]))
  refine own_by (fun t k => XS.aloadN X91.here hx rfl (hb hby own_d24_4) rfl rfl k) ?_
  show own_Go p.tables e below K (T91.setTop (mkF m 5 #[.val (.ref a1)] [(.ref a1), (.ref el)]))
  obtain ⟨T92, X92, e92, st92⟩ := getF X91 hx hZ hown (host := "") (Or.inl (hw _ (List.mem_of_getElem? (i := 156) rfl))) Via.refl e91 B0.2.2.1 (g := (mkF m 5 #[.val (.ref a1)] [(.ref a1), (.ref el)])) rfl rfl (hb hby own_d24_5)
  refine own_by st92 ?_
  show own_Go p.tables e below K (T92.setTop (mkF m 8 #[.val (.ref a1)] [(.int (0 : Int32)), (.ref el)]))
  refine own_by (fun t k => XS.aloadN X92.here hx rfl (hb hby own_d24_8) rfl rfl k) ?_
  show own_Go p.tables e below K (T92.setTop (mkF m 9 #[.val (.ref a1)] [(.ref a1), (.int (0 : Int32)), (.ref el)]))
  obtain ⟨T93, X93, e93, st93⟩ := getF X92 hx hZ hown (host := "") (Or.inl (hw _ (List.mem_of_getElem? (i := 153) rfl))) Via.refl e92 B0.2.2.2.1 (g := (mkF m 9 #[.val (.ref a1)] [(.ref a1), (.int (0 : Int32)), (.ref el)])) rfl rfl (hb hby own_d24_9)
  refine own_by st93 ?_
  show own_Go p.tables e below K (T93.setTop (mkF m 12 #[.val (.ref a1)] [(.int (0 : Int32)), (.int (0 : Int32)), (.ref el)]))
  obtain ⟨_, _, ⟨T94, L94, k94, n94⟩, -, X94, ⟨Lc94, hQ94, l94, y94, z94⟩, st94⟩ := Jvm.LawKit.callS X93 hx (y := (⟨"java/util/ArrayDeque", "circularClear", "([Ljava/lang/Object;II)V"⟩ : MethodName)) hown (mvT hZ (hw _ (List.mem_of_getElem? (i := 205) rfl))) (mvT hZ (hw _ (List.mem_of_getElem? (i := 206) rfl))) (mvT hZ (hw _ (List.mem_of_getElem? (i := 59) rfl))) (mvT hZ (hw _ (List.mem_of_getElem? (i := 207) rfl))) (by decide) (backOf (W := 0) (own_rmcir0 l Z aw hw [] el k h0 n0 Z0 B0.2.2.2.2.1 ge) hZ (hw _ (List.mem_of_getElem? (i := 207) rfl)) (hw _ (List.mem_of_getElem? (i := 59) rfl)) (by decide) (by decide)) (g := (mkF m 12 #[.val (.ref a1)] [(.int (0 : Int32)), (.int (0 : Int32)), (.ref el)])) rfl (by rw [hml]; rfl) (argsL := [(.ref el), (.int (0 : Int32)), (.int (0 : Int32))]) (rest := []) (lenOf own_pd10 rfl) rfl (by show 2 * 0 + _ ≤ _; exact Nat.le_of_eq rfl) (hb hby own_d24_12) (fun _ _ => ⟨rfl, e93, (by decide : 0 + 0 ≤ _), (by decide : 0 + 0 ≤ _)⟩)
  dsimp only [Pt.U, Pt.locs, Pt.cells, Pt.slots] at X94 l94 y94 z94 st94 hQ94
  subst l94 y94 z94
  obtain ⟨rfl, N94q, Kp94, Bp94⟩ := hQ94
  have N94 := Fr.app N0 N94q
  refine own_by st94 ?_
  have F94_elements_a1 := B0.2.1.keep Kp94 (ninS (own_Ar.ne B0.1 B0.2.2.2.2.1 (hw _ (List.mem_of_getElem? (i := 58) rfl))) nin0)
  have F94_head_a1 := B0.2.2.1.keep Kp94 (ninS (own_Ar.ne B0.1 B0.2.2.2.2.1 (hw _ (List.mem_of_getElem? (i := 58) rfl))) nin0)
  have F94_tail_a1 := B0.2.2.2.1.keep Kp94 (ninS (own_Ar.ne B0.1 B0.2.2.2.2.1 (hw _ (List.mem_of_getElem? (i := 58) rfl))) nin0)
  have Ex94_a1 := B0.1.keep Kp94
  have K94 := (Keep.refl h0 [a1, el]).trans Kp94 (allS (Or.inl (by simp)) (all0))
  have Z94 := Nat.le_trans Z0 Kp94.1
  show own_Go p.tables e below K (T94.setTop (mkF m 15 #[.val (.ref a1)] []))
  refine own_by (fun t k => XS.aloadN X94.here hx rfl (hb hby own_d24_15) rfl rfl k) ?_
  show own_Go p.tables e below K (T94.setTop (mkF m 16 #[.val (.ref a1)] [(.ref a1)]))
  refine own_by (fun t k => XS.aloadN X94.here hx rfl (hb hby own_d24_16) rfl rfl k) ?_
  show own_Go p.tables e below K (T94.setTop (mkF m 17 #[.val (.ref a1)] [(.ref a1), (.ref a1)]))
  refine own_by (fun t k => XS.iconst X94.here hx rfl (hb hby own_d24_17) k) ?_
  show own_Go p.tables e below K (T94.setTop (mkF m 18 #[.val (.ref a1)] [(.int (0 : Int32)), (.ref a1), (.ref a1)]))
  refine own_by (fun t k => XS.dupX1 X94.here hx rfl (hb hby own_d24_18) rfl rfl rfl k) ?_
  show own_Go p.tables e below K (T94.setTop (mkF m 19 #[.val (.ref a1)] [(.int (0 : Int32)), (.ref a1), (.int (0 : Int32)), (.ref a1)]))
  obtain ⟨T95, h95, X95, e95, W95, st95⟩ := putF X94 hx hZ hown (host := "") (Or.inl (hw _ (List.mem_of_getElem? (i := 153) rfl))) Via.refl rfl F94_tail_a1 Ex94_a1 (Or.inl (hw _ (List.mem_of_getElem? (i := 154) rfl))) (hw _ (List.mem_of_getElem? (i := 58) rfl)) (ty := .int) (by decide) rfl rfl (g := (mkF m 19 #[.val (.ref a1)] [(.int (0 : Int32)), (.ref a1), (.int (0 : Int32)), (.ref a1)])) rfl rfl (hb hby own_d24_19)
  refine own_by st95 ?_
  have F95_elements_a1 := F94_elements_a1.other W95 (Or.inr (slot_ne (Or.inl (hw _ (List.mem_of_getElem? (i := 68) rfl))) (Or.inl (hw _ (List.mem_of_getElem? (i := 154) rfl))) (by decide) (t := (.array (.object "java/lang/Object"))) (t' := .int) (by decide) (by decide)))
  have F95_head_a1 := F94_head_a1.other W95 (Or.inr (slot_ne (Or.inl (hw _ (List.mem_of_getElem? (i := 157) rfl))) (Or.inl (hw _ (List.mem_of_getElem? (i := 154) rfl))) (by decide) (t := .int) (t' := .int) (by decide) (by decide)))
  have F95_tail_a1 := F94_tail_a1.same W95
  have xa95_el := Bp94.other W95 (Ne.symm (own_Ar.ne Ex94_a1 Bp94 (hw _ (List.mem_of_getElem? (i := 58) rfl))))
  have Ex95_a1 := Ex94_a1.wr W95
  have K95 := K94.wr W95 (Or.inl (by simp))
  have Z95 := Nat.le_trans Z94 (Keep.of_wr W95).1
  have N95 := Fr.snoc X95 N94 ga
  show own_Go p.tables e below K (T95.setTop (mkF m 22 #[.val (.ref a1)] [(.int (0 : Int32)), (.ref a1)]))
  obtain ⟨T96, h96, X96, e96, W96, st96⟩ := putF X95 hx hZ hown (host := "") (Or.inl (hw _ (List.mem_of_getElem? (i := 156) rfl))) Via.refl e95 F95_head_a1 Ex95_a1 (Or.inl (hw _ (List.mem_of_getElem? (i := 157) rfl))) (hw _ (List.mem_of_getElem? (i := 58) rfl)) (ty := .int) (by decide) rfl rfl (g := (mkF m 22 #[.val (.ref a1)] [(.int (0 : Int32)), (.ref a1)])) rfl rfl (hb hby own_d24_22)
  refine own_by st96 ?_
  have F96_elements_a1 := F95_elements_a1.other W96 (Or.inr (slot_ne (Or.inl (hw _ (List.mem_of_getElem? (i := 68) rfl))) (Or.inl (hw _ (List.mem_of_getElem? (i := 157) rfl))) (by decide) (t := (.array (.object "java/lang/Object"))) (t' := .int) (by decide) (by decide)))
  have F96_head_a1 := F95_head_a1.same W96
  have F96_tail_a1 := F95_tail_a1.other W96 (Or.inr (slot_ne (Or.inl (hw _ (List.mem_of_getElem? (i := 154) rfl))) (Or.inl (hw _ (List.mem_of_getElem? (i := 157) rfl))) (by decide) (t := .int) (t' := .int) (by decide) (by decide)))
  have xa96_el := xa95_el.other W96 (Ne.symm (own_Ar.ne Ex95_a1 xa95_el (hw _ (List.mem_of_getElem? (i := 58) rfl))))
  have Ex96_a1 := Ex95_a1.wr W96
  have K96 := K95.wr W96 (Or.inl (by simp))
  have Z96 := Nat.le_trans Z95 (Keep.of_wr W96).1
  have N96 := Fr.snoc X96 N95 ga
  show own_Go p.tables e below K (T96.setTop (mkF m 25 #[.val (.ref a1)] []))
  exact own_retV X96 hx hret (hb hby own_d24_25) (hK none X96 (fun _ => rfl) (by rw [e96]; exact ⟨rfl, N96, K96, ⟨Ex96_a1, F96_elements_a1, F96_head_a1, F96_tail_a1, xa96_el, B0.2.2.2.2.2⟩⟩) (by decide) (by decide))
theorem own_d25_17 : decode jdk_21_method_54_code 17 = .ok (.aload_n 0, 1) := by decide +kernel
theorem own_d25_18 : decode jdk_21_method_54_code 18 = .ok (.iload_n 1, 1) := by decide +kernel
theorem own_d25_19 : decode jdk_21_method_54_code 19 = .ok (.aconst_null, 1) := by decide +kernel
theorem own_d25_20 : decode jdk_21_method_54_code 20 = .ok (.aastore, 1) := by decide +kernel
theorem own_d25_21 : decode jdk_21_method_54_code 21 = .ok (.iinc 1 1, 3) := by decide +kernel
theorem own_d25_24 : decode jdk_21_method_54_code 24 = .ok (.goto (-12), 3) := by decide +kernel
theorem own_efcir1 (m : MethodId) (el : Addr) : entryFrame m #[(.ref el), (.int (0 : Int32)), (.int (1 : Int32))] 4 = mkF m 0 #[.val (.ref el), .val (.int (0 : Int32)), .val (.int (1 : Int32)), .unset] [] := by first | (simp [entryFrame, mkF, argsToLocals, Value.category]; done) | rfl
def own_Qcir1 (Z : State) (el : Addr) (k : ClassId) (h0 : Heap) (n0 : Nat) (v : Option Value) (h : Heap) (L : List Loc) : Prop := v = none ∧ Fr n0 L ∧ Keep h0 h [el] ∧ own_Ar Z h el k
set_option maxRecDepth 65536 in
set_option maxHeartbeats 40000000 in
theorem own_rmcir1 (l : Launch) (Z : State) (aw : Array Value) (hw : ∀ d ∈ tables_1, d.before aw Z = true) (ws : List Jvm.Cond) (el : Addr) (k : ClassId) (h0 : Heap) (n0 : Nat) (Z0 : n0 ≤ h0.size) (B0 : own_Ar Z h0 el k) (ge : n0 ≤ el) :
    MetFree l (⟨"java/util/ArrayDeque", "circularClear", "([Ljava/lang/Object;II)V"⟩ : MethodName) (head1 (Jvm.Cond.code (⟨"java/util/ArrayDeque", "circularClear", "([Ljava/lang/Object;II)V"⟩ : MethodName) jdk_21_method_54_code 4 none :: ws) ({ frames := 0, cells := 0, slots := 0, locals := 0 } : Room)) (fun a U => a = #[(.ref el), (.int (0 : Int32)), (.int (1 : Int32))] ∧ Z.Warmed39 U.vm ∧ U.heap = h0) (fun _ _ _ _ _ => True) (fun _ U o U' => ∃ v L, o = .returned v ∧ own_Qcir1 Z el k h0 n0 v U'.heap L ∧ FrameEnd U o U' L ({ frames := 0, cells := 0, slots := 0, locals := 0 } : Room).cells ({ frames := 0, cells := 0, slots := 0, locals := 0 } : Room).slots) := by
  refine own_met (Q := own_Qcir1 Z el k h0 n0) (plainFor_of_name own_pn9) ?_
  intro p e s m below meth c s₁ K hx hby hml hown hnm hret hZ X0 e0 hK
  have hown : s.vm.findClass "java/util/ArrayDeque" = some m.cls := hown
  have N0 := Fr.nil n0
  refine own_by (fun t k => castTop (own_efcir1 m el) k) ?_
  show own_Go p.tables e below K (s₁.setTop (mkF m 0 #[.val (.ref el), .val (.int (0 : Int32)), .val (.int (1 : Int32)), .unset] []))
  refine own_by (fun t k => XS.iloadN X0.here hx rfl (hb hby own_d25_0) rfl k) ?_
  show own_Go p.tables e below K (s₁.setTop (mkF m 1 #[.val (.ref el), .val (.int (0 : Int32)), .val (.int (1 : Int32)), .unset] [(.int (0 : Int32))]))
  refine own_by (fun t k => XS.iloadN X0.here hx rfl (hb hby own_d25_1) rfl k) ?_
  show own_Go p.tables e below K (s₁.setTop (mkF m 2 #[.val (.ref el), .val (.int (0 : Int32)), .val (.int (1 : Int32)), .unset] [(.int (1 : Int32)), (.int (0 : Int32))]))
  have hc2 : ¬ ((1 : Int32) < (0 : Int32)) := by decide
  refine own_by (fun t k => XS.icmpNo X0.here hx rfl (hb hby own_d25_2) rfl (flt hc2).2.2.1 k) ?_
  show own_Go p.tables e below K (s₁.setTop (mkF m 5 #[.val (.ref el), .val (.int (0 : Int32)), .val (.int (1 : Int32)), .unset] []))
  refine own_by (fun t k => XS.iloadN X0.here hx rfl (hb hby own_d25_5) rfl k) ?_
  show own_Go p.tables e below K (s₁.setTop (mkF m 6 #[.val (.ref el), .val (.int (0 : Int32)), .val (.int (1 : Int32)), .unset] [(.int (1 : Int32))]))
  refine own_by (fun t k => XS.goto X0.here hx rfl (pc0 := 6) (pc' := 11) rfl (hb hby own_d25_6) (by decide) (by decide) k) ?_
  show own_Go p.tables e below K (s₁.setTop (mkF m 11 #[.val (.ref el), .val (.int (0 : Int32)), .val (.int (1 : Int32)), .unset] [(.int (1 : Int32))]))
  refine own_by (fun t k => XS.istoreN X0.here hx rfl (hb hby own_d25_11) rfl (l' := #[.val (.ref el), .val (.int (0 : Int32)), .val (.int (1 : Int32)), .val (.int (1 : Int32))]) rfl k) ?_
  show own_Go p.tables e below K (s₁.setTop (mkF m 12 #[.val (.ref el), .val (.int (0 : Int32)), .val (.int (1 : Int32)), .val (.int (1 : Int32))] []))
  refine own_by (fun t k => XS.iloadN X0.here hx rfl (hb hby own_d25_12) rfl k) ?_
  show own_Go p.tables e below K (s₁.setTop (mkF m 13 #[.val (.ref el), .val (.int (0 : Int32)), .val (.int (1 : Int32)), .val (.int (1 : Int32))] [(.int (0 : Int32))]))
  refine own_by (fun t k => XS.iloadN X0.here hx rfl (hb hby own_d25_13) rfl k) ?_
  show own_Go p.tables e below K (s₁.setTop (mkF m 14 #[.val (.ref el), .val (.int (0 : Int32)), .val (.int (1 : Int32)), .val (.int (1 : Int32))] [(.int (1 : Int32)), (.int (0 : Int32))]))
  have hc14 : (0 : Int32) < (1 : Int32) := by decide
  refine own_by (fun t k => XS.icmpNo X0.here hx rfl (hb hby own_d25_14) rfl (tlt hc14).2.1 k) ?_
  show own_Go p.tables e below K (s₁.setTop (mkF m 17 #[.val (.ref el), .val (.int (0 : Int32)), .val (.int (1 : Int32)), .val (.int (1 : Int32))] []))
  refine own_by (fun t k => XS.aloadN X0.here hx rfl (hb hby own_d25_17) rfl rfl k) ?_
  show own_Go p.tables e below K (s₁.setTop (mkF m 18 #[.val (.ref el), .val (.int (0 : Int32)), .val (.int (1 : Int32)), .val (.int (1 : Int32))] [(.ref el)]))
  refine own_by (fun t k => XS.iloadN X0.here hx rfl (hb hby own_d25_18) rfl k) ?_
  show own_Go p.tables e below K (s₁.setTop (mkF m 19 #[.val (.ref el), .val (.int (0 : Int32)), .val (.int (1 : Int32)), .val (.int (1 : Int32))] [(.int (0 : Int32)), (.ref el)]))
  refine own_by (fun t k => XS.aconstNull X0.here hx rfl (hb hby own_d25_19) k) ?_
  show own_Go p.tables e below K (s₁.setTop (mkF m 20 #[.val (.ref el), .val (.int (0 : Int32)), .val (.int (1 : Int32)), .val (.int (1 : Int32))] [.null, (.int (0 : Int32)), (.ref el)]))
  obtain ⟨cl97, Ar97, sz97, kc97⟩ := id B0
  obtain ⟨T97, h97, X97, e97, W97, st97⟩ := stR X0 hx hZ e0 Ar97 (j := (0 : Int32)) (by rw [sz97]; decide) rfl (Or.inl rfl) (g := (mkF m 20 #[.val (.ref el), .val (.int (0 : Int32)), .val (.int (1 : Int32)), .val (.int (1 : Int32))] [.null, (.int (0 : Int32)), (.ref el)])) rfl rfl (hb hby own_d25_20)
  refine own_by st97 ?_
  have xa97 := B0.same W97
  have K97 := (Keep.refl h0 [el]).wr W97 (Or.inl (by simp))
  have Z97 := Nat.le_trans Z0 (Keep.of_wr W97).1
  have N97 := Fr.snoc X97 N0 ge
  show own_Go p.tables e below K (T97.setTop (mkF m 21 #[.val (.ref el), .val (.int (0 : Int32)), .val (.int (1 : Int32)), .val (.int (1 : Int32))] []))
  refine own_by (fun t k => XS.iinc X97.here hx rfl (hb hby own_d25_21) rfl (l' := #[.val (.ref el), .val (.int (1 : Int32)), .val (.int (1 : Int32)), .val (.int (1 : Int32))]) rfl k) ?_
  show own_Go p.tables e below K (T97.setTop (mkF m 24 #[.val (.ref el), .val (.int (1 : Int32)), .val (.int (1 : Int32)), .val (.int (1 : Int32))] []))
  refine own_by (fun t k => XS.goto X97.here hx rfl (pc0 := 24) (pc' := 12) rfl (hb hby own_d25_24) (by decide) (by decide) k) ?_
  show own_Go p.tables e below K (T97.setTop (mkF m 12 #[.val (.ref el), .val (.int (1 : Int32)), .val (.int (1 : Int32)), .val (.int (1 : Int32))] []))
  refine own_by (fun t k => XS.iloadN X97.here hx rfl (hb hby own_d25_12) rfl k) ?_
  show own_Go p.tables e below K (T97.setTop (mkF m 13 #[.val (.ref el), .val (.int (1 : Int32)), .val (.int (1 : Int32)), .val (.int (1 : Int32))] [(.int (1 : Int32))]))
  refine own_by (fun t k => XS.iloadN X97.here hx rfl (hb hby own_d25_13) rfl k) ?_
  show own_Go p.tables e below K (T97.setTop (mkF m 14 #[.val (.ref el), .val (.int (1 : Int32)), .val (.int (1 : Int32)), .val (.int (1 : Int32))] [(.int (1 : Int32)), (.int (1 : Int32))]))
  have hc14 : ¬ ((1 : Int32) < (1 : Int32)) := by decide
  refine own_by (fun t k => XS.icmpYes X97.here hx rfl (pc0 := 14) (pc' := 27) rfl (hb hby own_d25_14) rfl (flt hc14).2.1 (by decide) (by decide) k) ?_
  show own_Go p.tables e below K (T97.setTop (mkF m 27 #[.val (.ref el), .val (.int (1 : Int32)), .val (.int (1 : Int32)), .val (.int (1 : Int32))] []))
  refine own_by (fun t k => XS.iloadN X97.here hx rfl (hb hby own_d25_27) rfl k) ?_
  show own_Go p.tables e below K (T97.setTop (mkF m 28 #[.val (.ref el), .val (.int (1 : Int32)), .val (.int (1 : Int32)), .val (.int (1 : Int32))] [(.int (1 : Int32))]))
  refine own_by (fun t k => XS.iloadN X97.here hx rfl (hb hby own_d25_28) rfl k) ?_
  show own_Go p.tables e below K (T97.setTop (mkF m 29 #[.val (.ref el), .val (.int (1 : Int32)), .val (.int (1 : Int32)), .val (.int (1 : Int32))] [(.int (1 : Int32)), (.int (1 : Int32))]))
  have hc29 : (1 : Int32) = (1 : Int32) := by decide
  refine own_by (fun t k => XS.icmpNo X97.here hx rfl (hb hby own_d25_29) rfl (teq hc29).2 k) ?_
  show own_Go p.tables e below K (T97.setTop (mkF m 32 #[.val (.ref el), .val (.int (1 : Int32)), .val (.int (1 : Int32)), .val (.int (1 : Int32))] []))
  refine own_by (fun t k => XS.goto X97.here hx rfl (pc0 := 32) (pc' := 42) rfl (hb hby own_d25_32) (by decide) (by decide) k) ?_
  show own_Go p.tables e below K (T97.setTop (mkF m 42 #[.val (.ref el), .val (.int (1 : Int32)), .val (.int (1 : Int32)), .val (.int (1 : Int32))] []))
  exact own_retV X97 hx hret (hb hby own_d25_42) (hK none X97 (fun _ => rfl) (by rw [e97]; exact ⟨rfl, N97, K97, xa97⟩) (by decide) (by decide))
theorem own_efdqc1 (m : MethodId) (a1 : Addr) : entryFrame m #[(.ref a1)] 1 = mkF m 0 #[.val (.ref a1)] [] := by first | (simp [entryFrame, mkF, argsToLocals, Value.category]; done) | rfl
def own_Qdqc1 (Z : State) (a1 : Addr) (el : Addr) (k : ClassId) (h0 : Heap) (n0 : Nat) (v : Option Value) (h : Heap) (L : List Loc) : Prop := v = none ∧ Fr n0 L ∧ Keep h0 h [a1, el] ∧ own_DQ Z h a1 el k 0
set_option maxRecDepth 65536 in
set_option maxHeartbeats 40000000 in
theorem own_rmdqc1 (l : Launch) (Z : State) (aw : Array Value) (hw : ∀ d ∈ tables_1, d.before aw Z = true) (ws : List Jvm.Cond) (a1 : Addr) (el : Addr) (k : ClassId) (h0 : Heap) (n0 : Nat) (Z0 : n0 ≤ h0.size) (B0 : own_DQ Z h0 a1 el k (1 : Int32)) (ga : n0 ≤ a1) (ge : n0 ≤ el) :
    MetFree l (⟨"java/util/ArrayDeque", "clear", "()V"⟩ : MethodName) (head1 (Jvm.Cond.code (⟨"java/util/ArrayDeque", "clear", "()V"⟩ : MethodName) jdk_21_method_53_code 1 none :: ws) ({ frames := 1, cells := 0, slots := 0, locals := 20 } : Room)) (fun a U => a = #[(.ref a1)] ∧ Z.Warmed39 U.vm ∧ U.heap = h0) (fun _ _ _ _ _ => True) (fun _ U o U' => ∃ v L, o = .returned v ∧ own_Qdqc1 Z a1 el k h0 n0 v U'.heap L ∧ FrameEnd U o U' L ({ frames := 1, cells := 0, slots := 0, locals := 20 } : Room).cells ({ frames := 1, cells := 0, slots := 0, locals := 20 } : Room).slots) := by
  refine own_met (Q := own_Qdqc1 Z a1 el k h0 n0) (plainFor_of_name own_pn9) ?_
  intro p e s m below meth c s₁ K hx hby hml hown hnm hret hZ X0 e0 hK
  have hown : s.vm.findClass "java/util/ArrayDeque" = some m.cls := hown
  have N0 := Fr.nil n0
  refine own_by (fun t k => castTop (own_efdqc1 m a1) k) ?_
  show own_Go p.tables e below K (s₁.setTop (mkF m 0 #[.val (.ref a1)] []))
  refine own_by (fun t k => XS.aloadN X0.here hx rfl (hb hby own_d24_0) rfl rfl k) ?_
  show own_Go p.tables e below K (s₁.setTop (mkF m 1 #[.val (.ref a1)] [(.ref a1)]))
  obtain ⟨T98, X98, e98, st98⟩ := getF X0 hx hZ hown (host := "") (Or.inl (hw _ (List.mem_of_getElem? (i := 67) rfl))) Via.refl e0 B0.2.1 (g := (mkF m 1 #[.val (.ref a1)] [(.ref a1)])) rfl rfl (hb hby own_d24_1)
  refine own_by st98 ?_
  show own_Go p.tables e below K (T98.setTop (mkF m 4 #[.val (.ref a1)] [(.ref el)]))
  refine own_by (fun t k => XS.aloadN X98.here hx rfl (hb hby own_d24_4) rfl rfl k) ?_
  show own_Go p.tables e below K (T98.setTop (mkF m 5 #[.val (.ref a1)] [(.ref a1), (.ref el)]))
  obtain ⟨T99, X99, e99, st99⟩ := getF X98 hx hZ hown (host := "") (Or.inl (hw _ (List.mem_of_getElem? (i := 156) rfl))) Via.refl e98 B0.2.2.1 (g := (mkF m 5 #[.val (.ref a1)] [(.ref a1), (.ref el)])) rfl rfl (hb hby own_d24_5)
  refine own_by st99 ?_
  show own_Go p.tables e below K (T99.setTop (mkF m 8 #[.val (.ref a1)] [(.int (0 : Int32)), (.ref el)]))
  refine own_by (fun t k => XS.aloadN X99.here hx rfl (hb hby own_d24_8) rfl rfl k) ?_
  show own_Go p.tables e below K (T99.setTop (mkF m 9 #[.val (.ref a1)] [(.ref a1), (.int (0 : Int32)), (.ref el)]))
  obtain ⟨T100, X100, e100, st100⟩ := getF X99 hx hZ hown (host := "") (Or.inl (hw _ (List.mem_of_getElem? (i := 153) rfl))) Via.refl e99 B0.2.2.2.1 (g := (mkF m 9 #[.val (.ref a1)] [(.ref a1), (.int (0 : Int32)), (.ref el)])) rfl rfl (hb hby own_d24_9)
  refine own_by st100 ?_
  show own_Go p.tables e below K (T100.setTop (mkF m 12 #[.val (.ref a1)] [(.int (1 : Int32)), (.int (0 : Int32)), (.ref el)]))
  obtain ⟨_, _, ⟨T101, L101, k101, n101⟩, -, X101, ⟨Lc101, hQ101, l101, y101, z101⟩, st101⟩ := Jvm.LawKit.callS X100 hx (y := (⟨"java/util/ArrayDeque", "circularClear", "([Ljava/lang/Object;II)V"⟩ : MethodName)) hown (mvT hZ (hw _ (List.mem_of_getElem? (i := 205) rfl))) (mvT hZ (hw _ (List.mem_of_getElem? (i := 206) rfl))) (mvT hZ (hw _ (List.mem_of_getElem? (i := 59) rfl))) (mvT hZ (hw _ (List.mem_of_getElem? (i := 207) rfl))) (by decide) (backOf (W := 0) (own_rmcir1 l Z aw hw [] el k h0 n0 Z0 B0.2.2.2.2.1 ge) hZ (hw _ (List.mem_of_getElem? (i := 207) rfl)) (hw _ (List.mem_of_getElem? (i := 59) rfl)) (by decide) (by decide)) (g := (mkF m 12 #[.val (.ref a1)] [(.int (1 : Int32)), (.int (0 : Int32)), (.ref el)])) rfl (by rw [hml]; rfl) (argsL := [(.ref el), (.int (0 : Int32)), (.int (1 : Int32))]) (rest := []) (lenOf own_pd10 rfl) rfl (by show 2 * 0 + _ ≤ _; exact Nat.le_of_eq rfl) (hb hby own_d24_12) (fun _ _ => ⟨rfl, e100, (by decide : 0 + 0 ≤ _), (by decide : 0 + 0 ≤ _)⟩)
  dsimp only [Pt.U, Pt.locs, Pt.cells, Pt.slots] at X101 l101 y101 z101 st101 hQ101
  subst l101 y101 z101
  obtain ⟨rfl, N101q, Kp101, Bp101⟩ := hQ101
  have N101 := Fr.app N0 N101q
  refine own_by st101 ?_
  have F101_elements_a1 := B0.2.1.keep Kp101 (ninS (own_Ar.ne B0.1 B0.2.2.2.2.1 (hw _ (List.mem_of_getElem? (i := 58) rfl))) nin0)
  have F101_head_a1 := B0.2.2.1.keep Kp101 (ninS (own_Ar.ne B0.1 B0.2.2.2.2.1 (hw _ (List.mem_of_getElem? (i := 58) rfl))) nin0)
  have F101_tail_a1 := B0.2.2.2.1.keep Kp101 (ninS (own_Ar.ne B0.1 B0.2.2.2.2.1 (hw _ (List.mem_of_getElem? (i := 58) rfl))) nin0)
  have Ex101_a1 := B0.1.keep Kp101
  have K101 := (Keep.refl h0 [a1, el]).trans Kp101 (allS (Or.inl (by simp)) (all0))
  have Z101 := Nat.le_trans Z0 Kp101.1
  show own_Go p.tables e below K (T101.setTop (mkF m 15 #[.val (.ref a1)] []))
  refine own_by (fun t k => XS.aloadN X101.here hx rfl (hb hby own_d24_15) rfl rfl k) ?_
  show own_Go p.tables e below K (T101.setTop (mkF m 16 #[.val (.ref a1)] [(.ref a1)]))
  refine own_by (fun t k => XS.aloadN X101.here hx rfl (hb hby own_d24_16) rfl rfl k) ?_
  show own_Go p.tables e below K (T101.setTop (mkF m 17 #[.val (.ref a1)] [(.ref a1), (.ref a1)]))
  refine own_by (fun t k => XS.iconst X101.here hx rfl (hb hby own_d24_17) k) ?_
  show own_Go p.tables e below K (T101.setTop (mkF m 18 #[.val (.ref a1)] [(.int (0 : Int32)), (.ref a1), (.ref a1)]))
  refine own_by (fun t k => XS.dupX1 X101.here hx rfl (hb hby own_d24_18) rfl rfl rfl k) ?_
  show own_Go p.tables e below K (T101.setTop (mkF m 19 #[.val (.ref a1)] [(.int (0 : Int32)), (.ref a1), (.int (0 : Int32)), (.ref a1)]))
  obtain ⟨T102, h102, X102, e102, W102, st102⟩ := putF X101 hx hZ hown (host := "") (Or.inl (hw _ (List.mem_of_getElem? (i := 153) rfl))) Via.refl rfl F101_tail_a1 Ex101_a1 (Or.inl (hw _ (List.mem_of_getElem? (i := 154) rfl))) (hw _ (List.mem_of_getElem? (i := 58) rfl)) (ty := .int) (by decide) rfl rfl (g := (mkF m 19 #[.val (.ref a1)] [(.int (0 : Int32)), (.ref a1), (.int (0 : Int32)), (.ref a1)])) rfl rfl (hb hby own_d24_19)
  refine own_by st102 ?_
  have F102_elements_a1 := F101_elements_a1.other W102 (Or.inr (slot_ne (Or.inl (hw _ (List.mem_of_getElem? (i := 68) rfl))) (Or.inl (hw _ (List.mem_of_getElem? (i := 154) rfl))) (by decide) (t := (.array (.object "java/lang/Object"))) (t' := .int) (by decide) (by decide)))
  have F102_head_a1 := F101_head_a1.other W102 (Or.inr (slot_ne (Or.inl (hw _ (List.mem_of_getElem? (i := 157) rfl))) (Or.inl (hw _ (List.mem_of_getElem? (i := 154) rfl))) (by decide) (t := .int) (t' := .int) (by decide) (by decide)))
  have F102_tail_a1 := F101_tail_a1.same W102
  have xa102_el := Bp101.other W102 (Ne.symm (own_Ar.ne Ex101_a1 Bp101 (hw _ (List.mem_of_getElem? (i := 58) rfl))))
  have Ex102_a1 := Ex101_a1.wr W102
  have K102 := K101.wr W102 (Or.inl (by simp))
  have Z102 := Nat.le_trans Z101 (Keep.of_wr W102).1
  have N102 := Fr.snoc X102 N101 ga
  show own_Go p.tables e below K (T102.setTop (mkF m 22 #[.val (.ref a1)] [(.int (0 : Int32)), (.ref a1)]))
  obtain ⟨T103, h103, X103, e103, W103, st103⟩ := putF X102 hx hZ hown (host := "") (Or.inl (hw _ (List.mem_of_getElem? (i := 156) rfl))) Via.refl e102 F102_head_a1 Ex102_a1 (Or.inl (hw _ (List.mem_of_getElem? (i := 157) rfl))) (hw _ (List.mem_of_getElem? (i := 58) rfl)) (ty := .int) (by decide) rfl rfl (g := (mkF m 22 #[.val (.ref a1)] [(.int (0 : Int32)), (.ref a1)])) rfl rfl (hb hby own_d24_22)
  refine own_by st103 ?_
  have F103_elements_a1 := F102_elements_a1.other W103 (Or.inr (slot_ne (Or.inl (hw _ (List.mem_of_getElem? (i := 68) rfl))) (Or.inl (hw _ (List.mem_of_getElem? (i := 157) rfl))) (by decide) (t := (.array (.object "java/lang/Object"))) (t' := .int) (by decide) (by decide)))
  have F103_head_a1 := F102_head_a1.same W103
  have F103_tail_a1 := F102_tail_a1.other W103 (Or.inr (slot_ne (Or.inl (hw _ (List.mem_of_getElem? (i := 154) rfl))) (Or.inl (hw _ (List.mem_of_getElem? (i := 157) rfl))) (by decide) (t := .int) (t' := .int) (by decide) (by decide)))
  have xa103_el := xa102_el.other W103 (Ne.symm (own_Ar.ne Ex102_a1 xa102_el (hw _ (List.mem_of_getElem? (i := 58) rfl))))
  have Ex103_a1 := Ex102_a1.wr W103
  have K103 := K102.wr W103 (Or.inl (by simp))
  have Z103 := Nat.le_trans Z102 (Keep.of_wr W103).1
  have N103 := Fr.snoc X103 N102 ga
  show own_Go p.tables e below K (T103.setTop (mkF m 25 #[.val (.ref a1)] []))
  exact own_retV X103 hx hret (hb hby own_d24_25) (hK none X103 (fun _ => rfl) (by rw [e103]; exact ⟨rfl, N103, K103, ⟨Ex103_a1, F103_elements_a1, F103_head_a1, F103_tail_a1, xa103_el, B0.2.2.2.2.2⟩⟩) (by decide) (by decide))
theorem own_efcir2 (m : MethodId) (el : Addr) : entryFrame m #[(.ref el), (.int (0 : Int32)), (.int (2 : Int32))] 4 = mkF m 0 #[.val (.ref el), .val (.int (0 : Int32)), .val (.int (2 : Int32)), .unset] [] := by first | (simp [entryFrame, mkF, argsToLocals, Value.category]; done) | rfl
def own_Qcir2 (Z : State) (el : Addr) (k : ClassId) (h0 : Heap) (n0 : Nat) (v : Option Value) (h : Heap) (L : List Loc) : Prop := v = none ∧ Fr n0 L ∧ Keep h0 h [el] ∧ own_Ar Z h el k
set_option maxRecDepth 65536 in
set_option maxHeartbeats 40000000 in
theorem own_rmcir2 (l : Launch) (Z : State) (aw : Array Value) (hw : ∀ d ∈ tables_1, d.before aw Z = true) (ws : List Jvm.Cond) (el : Addr) (k : ClassId) (h0 : Heap) (n0 : Nat) (Z0 : n0 ≤ h0.size) (B0 : own_Ar Z h0 el k) (ge : n0 ≤ el) :
    MetFree l (⟨"java/util/ArrayDeque", "circularClear", "([Ljava/lang/Object;II)V"⟩ : MethodName) (head1 (Jvm.Cond.code (⟨"java/util/ArrayDeque", "circularClear", "([Ljava/lang/Object;II)V"⟩ : MethodName) jdk_21_method_54_code 4 none :: ws) ({ frames := 0, cells := 0, slots := 0, locals := 0 } : Room)) (fun a U => a = #[(.ref el), (.int (0 : Int32)), (.int (2 : Int32))] ∧ Z.Warmed39 U.vm ∧ U.heap = h0) (fun _ _ _ _ _ => True) (fun _ U o U' => ∃ v L, o = .returned v ∧ own_Qcir2 Z el k h0 n0 v U'.heap L ∧ FrameEnd U o U' L ({ frames := 0, cells := 0, slots := 0, locals := 0 } : Room).cells ({ frames := 0, cells := 0, slots := 0, locals := 0 } : Room).slots) := by
  refine own_met (Q := own_Qcir2 Z el k h0 n0) (plainFor_of_name own_pn9) ?_
  intro p e s m below meth c s₁ K hx hby hml hown hnm hret hZ X0 e0 hK
  have hown : s.vm.findClass "java/util/ArrayDeque" = some m.cls := hown
  have N0 := Fr.nil n0
  refine own_by (fun t k => castTop (own_efcir2 m el) k) ?_
  show own_Go p.tables e below K (s₁.setTop (mkF m 0 #[.val (.ref el), .val (.int (0 : Int32)), .val (.int (2 : Int32)), .unset] []))
  refine own_by (fun t k => XS.iloadN X0.here hx rfl (hb hby own_d25_0) rfl k) ?_
  show own_Go p.tables e below K (s₁.setTop (mkF m 1 #[.val (.ref el), .val (.int (0 : Int32)), .val (.int (2 : Int32)), .unset] [(.int (0 : Int32))]))
  refine own_by (fun t k => XS.iloadN X0.here hx rfl (hb hby own_d25_1) rfl k) ?_
  show own_Go p.tables e below K (s₁.setTop (mkF m 2 #[.val (.ref el), .val (.int (0 : Int32)), .val (.int (2 : Int32)), .unset] [(.int (2 : Int32)), (.int (0 : Int32))]))
  have hc2 : ¬ ((2 : Int32) < (0 : Int32)) := by decide
  refine own_by (fun t k => XS.icmpNo X0.here hx rfl (hb hby own_d25_2) rfl (flt hc2).2.2.1 k) ?_
  show own_Go p.tables e below K (s₁.setTop (mkF m 5 #[.val (.ref el), .val (.int (0 : Int32)), .val (.int (2 : Int32)), .unset] []))
  refine own_by (fun t k => XS.iloadN X0.here hx rfl (hb hby own_d25_5) rfl k) ?_
  show own_Go p.tables e below K (s₁.setTop (mkF m 6 #[.val (.ref el), .val (.int (0 : Int32)), .val (.int (2 : Int32)), .unset] [(.int (2 : Int32))]))
  refine own_by (fun t k => XS.goto X0.here hx rfl (pc0 := 6) (pc' := 11) rfl (hb hby own_d25_6) (by decide) (by decide) k) ?_
  show own_Go p.tables e below K (s₁.setTop (mkF m 11 #[.val (.ref el), .val (.int (0 : Int32)), .val (.int (2 : Int32)), .unset] [(.int (2 : Int32))]))
  refine own_by (fun t k => XS.istoreN X0.here hx rfl (hb hby own_d25_11) rfl (l' := #[.val (.ref el), .val (.int (0 : Int32)), .val (.int (2 : Int32)), .val (.int (2 : Int32))]) rfl k) ?_
  show own_Go p.tables e below K (s₁.setTop (mkF m 12 #[.val (.ref el), .val (.int (0 : Int32)), .val (.int (2 : Int32)), .val (.int (2 : Int32))] []))
  refine own_by (fun t k => XS.iloadN X0.here hx rfl (hb hby own_d25_12) rfl k) ?_
  show own_Go p.tables e below K (s₁.setTop (mkF m 13 #[.val (.ref el), .val (.int (0 : Int32)), .val (.int (2 : Int32)), .val (.int (2 : Int32))] [(.int (0 : Int32))]))
  refine own_by (fun t k => XS.iloadN X0.here hx rfl (hb hby own_d25_13) rfl k) ?_
  show own_Go p.tables e below K (s₁.setTop (mkF m 14 #[.val (.ref el), .val (.int (0 : Int32)), .val (.int (2 : Int32)), .val (.int (2 : Int32))] [(.int (2 : Int32)), (.int (0 : Int32))]))
  have hc14 : (0 : Int32) < (2 : Int32) := by decide
  refine own_by (fun t k => XS.icmpNo X0.here hx rfl (hb hby own_d25_14) rfl (tlt hc14).2.1 k) ?_
  show own_Go p.tables e below K (s₁.setTop (mkF m 17 #[.val (.ref el), .val (.int (0 : Int32)), .val (.int (2 : Int32)), .val (.int (2 : Int32))] []))
  refine own_by (fun t k => XS.aloadN X0.here hx rfl (hb hby own_d25_17) rfl rfl k) ?_
  show own_Go p.tables e below K (s₁.setTop (mkF m 18 #[.val (.ref el), .val (.int (0 : Int32)), .val (.int (2 : Int32)), .val (.int (2 : Int32))] [(.ref el)]))
  refine own_by (fun t k => XS.iloadN X0.here hx rfl (hb hby own_d25_18) rfl k) ?_
  show own_Go p.tables e below K (s₁.setTop (mkF m 19 #[.val (.ref el), .val (.int (0 : Int32)), .val (.int (2 : Int32)), .val (.int (2 : Int32))] [(.int (0 : Int32)), (.ref el)]))
  refine own_by (fun t k => XS.aconstNull X0.here hx rfl (hb hby own_d25_19) k) ?_
  show own_Go p.tables e below K (s₁.setTop (mkF m 20 #[.val (.ref el), .val (.int (0 : Int32)), .val (.int (2 : Int32)), .val (.int (2 : Int32))] [.null, (.int (0 : Int32)), (.ref el)]))
  obtain ⟨cl104, Ar104, sz104, kc104⟩ := id B0
  obtain ⟨T104, h104, X104, e104, W104, st104⟩ := stR X0 hx hZ e0 Ar104 (j := (0 : Int32)) (by rw [sz104]; decide) rfl (Or.inl rfl) (g := (mkF m 20 #[.val (.ref el), .val (.int (0 : Int32)), .val (.int (2 : Int32)), .val (.int (2 : Int32))] [.null, (.int (0 : Int32)), (.ref el)])) rfl rfl (hb hby own_d25_20)
  refine own_by st104 ?_
  have xa104 := B0.same W104
  have K104 := (Keep.refl h0 [el]).wr W104 (Or.inl (by simp))
  have Z104 := Nat.le_trans Z0 (Keep.of_wr W104).1
  have N104 := Fr.snoc X104 N0 ge
  show own_Go p.tables e below K (T104.setTop (mkF m 21 #[.val (.ref el), .val (.int (0 : Int32)), .val (.int (2 : Int32)), .val (.int (2 : Int32))] []))
  refine own_by (fun t k => XS.iinc X104.here hx rfl (hb hby own_d25_21) rfl (l' := #[.val (.ref el), .val (.int (1 : Int32)), .val (.int (2 : Int32)), .val (.int (2 : Int32))]) rfl k) ?_
  show own_Go p.tables e below K (T104.setTop (mkF m 24 #[.val (.ref el), .val (.int (1 : Int32)), .val (.int (2 : Int32)), .val (.int (2 : Int32))] []))
  refine own_by (fun t k => XS.goto X104.here hx rfl (pc0 := 24) (pc' := 12) rfl (hb hby own_d25_24) (by decide) (by decide) k) ?_
  show own_Go p.tables e below K (T104.setTop (mkF m 12 #[.val (.ref el), .val (.int (1 : Int32)), .val (.int (2 : Int32)), .val (.int (2 : Int32))] []))
  refine own_by (fun t k => XS.iloadN X104.here hx rfl (hb hby own_d25_12) rfl k) ?_
  show own_Go p.tables e below K (T104.setTop (mkF m 13 #[.val (.ref el), .val (.int (1 : Int32)), .val (.int (2 : Int32)), .val (.int (2 : Int32))] [(.int (1 : Int32))]))
  refine own_by (fun t k => XS.iloadN X104.here hx rfl (hb hby own_d25_13) rfl k) ?_
  show own_Go p.tables e below K (T104.setTop (mkF m 14 #[.val (.ref el), .val (.int (1 : Int32)), .val (.int (2 : Int32)), .val (.int (2 : Int32))] [(.int (2 : Int32)), (.int (1 : Int32))]))
  have hc14 : (1 : Int32) < (2 : Int32) := by decide
  refine own_by (fun t k => XS.icmpNo X104.here hx rfl (hb hby own_d25_14) rfl (tlt hc14).2.1 k) ?_
  show own_Go p.tables e below K (T104.setTop (mkF m 17 #[.val (.ref el), .val (.int (1 : Int32)), .val (.int (2 : Int32)), .val (.int (2 : Int32))] []))
  refine own_by (fun t k => XS.aloadN X104.here hx rfl (hb hby own_d25_17) rfl rfl k) ?_
  show own_Go p.tables e below K (T104.setTop (mkF m 18 #[.val (.ref el), .val (.int (1 : Int32)), .val (.int (2 : Int32)), .val (.int (2 : Int32))] [(.ref el)]))
  refine own_by (fun t k => XS.iloadN X104.here hx rfl (hb hby own_d25_18) rfl k) ?_
  show own_Go p.tables e below K (T104.setTop (mkF m 19 #[.val (.ref el), .val (.int (1 : Int32)), .val (.int (2 : Int32)), .val (.int (2 : Int32))] [(.int (1 : Int32)), (.ref el)]))
  refine own_by (fun t k => XS.aconstNull X104.here hx rfl (hb hby own_d25_19) k) ?_
  show own_Go p.tables e below K (T104.setTop (mkF m 20 #[.val (.ref el), .val (.int (1 : Int32)), .val (.int (2 : Int32)), .val (.int (2 : Int32))] [.null, (.int (1 : Int32)), (.ref el)]))
  obtain ⟨cl105, Ar105, sz105, kc105⟩ := id xa104
  obtain ⟨T105, h105, X105, e105, W105, st105⟩ := stR X104 hx hZ e104 Ar105 (j := (1 : Int32)) (by rw [sz105]; decide) rfl (Or.inl rfl) (g := (mkF m 20 #[.val (.ref el), .val (.int (1 : Int32)), .val (.int (2 : Int32)), .val (.int (2 : Int32))] [.null, (.int (1 : Int32)), (.ref el)])) rfl rfl (hb hby own_d25_20)
  refine own_by st105 ?_
  have xa105 := xa104.same W105
  have K105 := K104.wr W105 (Or.inl (by simp))
  have Z105 := Nat.le_trans Z104 (Keep.of_wr W105).1
  have N105 := Fr.snoc X105 N104 ge
  show own_Go p.tables e below K (T105.setTop (mkF m 21 #[.val (.ref el), .val (.int (1 : Int32)), .val (.int (2 : Int32)), .val (.int (2 : Int32))] []))
  refine own_by (fun t k => XS.iinc X105.here hx rfl (hb hby own_d25_21) rfl (l' := #[.val (.ref el), .val (.int (2 : Int32)), .val (.int (2 : Int32)), .val (.int (2 : Int32))]) rfl k) ?_
  show own_Go p.tables e below K (T105.setTop (mkF m 24 #[.val (.ref el), .val (.int (2 : Int32)), .val (.int (2 : Int32)), .val (.int (2 : Int32))] []))
  refine own_by (fun t k => XS.goto X105.here hx rfl (pc0 := 24) (pc' := 12) rfl (hb hby own_d25_24) (by decide) (by decide) k) ?_
  show own_Go p.tables e below K (T105.setTop (mkF m 12 #[.val (.ref el), .val (.int (2 : Int32)), .val (.int (2 : Int32)), .val (.int (2 : Int32))] []))
  refine own_by (fun t k => XS.iloadN X105.here hx rfl (hb hby own_d25_12) rfl k) ?_
  show own_Go p.tables e below K (T105.setTop (mkF m 13 #[.val (.ref el), .val (.int (2 : Int32)), .val (.int (2 : Int32)), .val (.int (2 : Int32))] [(.int (2 : Int32))]))
  refine own_by (fun t k => XS.iloadN X105.here hx rfl (hb hby own_d25_13) rfl k) ?_
  show own_Go p.tables e below K (T105.setTop (mkF m 14 #[.val (.ref el), .val (.int (2 : Int32)), .val (.int (2 : Int32)), .val (.int (2 : Int32))] [(.int (2 : Int32)), (.int (2 : Int32))]))
  have hc14 : ¬ ((2 : Int32) < (2 : Int32)) := by decide
  refine own_by (fun t k => XS.icmpYes X105.here hx rfl (pc0 := 14) (pc' := 27) rfl (hb hby own_d25_14) rfl (flt hc14).2.1 (by decide) (by decide) k) ?_
  show own_Go p.tables e below K (T105.setTop (mkF m 27 #[.val (.ref el), .val (.int (2 : Int32)), .val (.int (2 : Int32)), .val (.int (2 : Int32))] []))
  refine own_by (fun t k => XS.iloadN X105.here hx rfl (hb hby own_d25_27) rfl k) ?_
  show own_Go p.tables e below K (T105.setTop (mkF m 28 #[.val (.ref el), .val (.int (2 : Int32)), .val (.int (2 : Int32)), .val (.int (2 : Int32))] [(.int (2 : Int32))]))
  refine own_by (fun t k => XS.iloadN X105.here hx rfl (hb hby own_d25_28) rfl k) ?_
  show own_Go p.tables e below K (T105.setTop (mkF m 29 #[.val (.ref el), .val (.int (2 : Int32)), .val (.int (2 : Int32)), .val (.int (2 : Int32))] [(.int (2 : Int32)), (.int (2 : Int32))]))
  have hc29 : (2 : Int32) = (2 : Int32) := by decide
  refine own_by (fun t k => XS.icmpNo X105.here hx rfl (hb hby own_d25_29) rfl (teq hc29).2 k) ?_
  show own_Go p.tables e below K (T105.setTop (mkF m 32 #[.val (.ref el), .val (.int (2 : Int32)), .val (.int (2 : Int32)), .val (.int (2 : Int32))] []))
  refine own_by (fun t k => XS.goto X105.here hx rfl (pc0 := 32) (pc' := 42) rfl (hb hby own_d25_32) (by decide) (by decide) k) ?_
  show own_Go p.tables e below K (T105.setTop (mkF m 42 #[.val (.ref el), .val (.int (2 : Int32)), .val (.int (2 : Int32)), .val (.int (2 : Int32))] []))
  exact own_retV X105 hx hret (hb hby own_d25_42) (hK none X105 (fun _ => rfl) (by rw [e105]; exact ⟨rfl, N105, K105, xa105⟩) (by decide) (by decide))
theorem own_efdqc2 (m : MethodId) (a1 : Addr) : entryFrame m #[(.ref a1)] 1 = mkF m 0 #[.val (.ref a1)] [] := by first | (simp [entryFrame, mkF, argsToLocals, Value.category]; done) | rfl
def own_Qdqc2 (Z : State) (a1 : Addr) (el : Addr) (k : ClassId) (h0 : Heap) (n0 : Nat) (v : Option Value) (h : Heap) (L : List Loc) : Prop := v = none ∧ Fr n0 L ∧ Keep h0 h [a1, el] ∧ own_DQ Z h a1 el k 0
set_option maxRecDepth 65536 in
set_option maxHeartbeats 40000000 in
theorem own_rmdqc2 (l : Launch) (Z : State) (aw : Array Value) (hw : ∀ d ∈ tables_1, d.before aw Z = true) (ws : List Jvm.Cond) (a1 : Addr) (el : Addr) (k : ClassId) (h0 : Heap) (n0 : Nat) (Z0 : n0 ≤ h0.size) (B0 : own_DQ Z h0 a1 el k (2 : Int32)) (ga : n0 ≤ a1) (ge : n0 ≤ el) :
    MetFree l (⟨"java/util/ArrayDeque", "clear", "()V"⟩ : MethodName) (head1 (Jvm.Cond.code (⟨"java/util/ArrayDeque", "clear", "()V"⟩ : MethodName) jdk_21_method_53_code 1 none :: ws) ({ frames := 1, cells := 0, slots := 0, locals := 20 } : Room)) (fun a U => a = #[(.ref a1)] ∧ Z.Warmed39 U.vm ∧ U.heap = h0) (fun _ _ _ _ _ => True) (fun _ U o U' => ∃ v L, o = .returned v ∧ own_Qdqc2 Z a1 el k h0 n0 v U'.heap L ∧ FrameEnd U o U' L ({ frames := 1, cells := 0, slots := 0, locals := 20 } : Room).cells ({ frames := 1, cells := 0, slots := 0, locals := 20 } : Room).slots) := by
  refine own_met (Q := own_Qdqc2 Z a1 el k h0 n0) (plainFor_of_name own_pn9) ?_
  intro p e s m below meth c s₁ K hx hby hml hown hnm hret hZ X0 e0 hK
  have hown : s.vm.findClass "java/util/ArrayDeque" = some m.cls := hown
  have N0 := Fr.nil n0
  refine own_by (fun t k => castTop (own_efdqc2 m a1) k) ?_
  show own_Go p.tables e below K (s₁.setTop (mkF m 0 #[.val (.ref a1)] []))
  refine own_by (fun t k => XS.aloadN X0.here hx rfl (hb hby own_d24_0) rfl rfl k) ?_
  show own_Go p.tables e below K (s₁.setTop (mkF m 1 #[.val (.ref a1)] [(.ref a1)]))
  obtain ⟨T106, X106, e106, st106⟩ := getF X0 hx hZ hown (host := "") (Or.inl (hw _ (List.mem_of_getElem? (i := 67) rfl))) Via.refl e0 B0.2.1 (g := (mkF m 1 #[.val (.ref a1)] [(.ref a1)])) rfl rfl (hb hby own_d24_1)
  refine own_by st106 ?_
  show own_Go p.tables e below K (T106.setTop (mkF m 4 #[.val (.ref a1)] [(.ref el)]))
  refine own_by (fun t k => XS.aloadN X106.here hx rfl (hb hby own_d24_4) rfl rfl k) ?_
  show own_Go p.tables e below K (T106.setTop (mkF m 5 #[.val (.ref a1)] [(.ref a1), (.ref el)]))
  obtain ⟨T107, X107, e107, st107⟩ := getF X106 hx hZ hown (host := "") (Or.inl (hw _ (List.mem_of_getElem? (i := 156) rfl))) Via.refl e106 B0.2.2.1 (g := (mkF m 5 #[.val (.ref a1)] [(.ref a1), (.ref el)])) rfl rfl (hb hby own_d24_5)
  refine own_by st107 ?_
  show own_Go p.tables e below K (T107.setTop (mkF m 8 #[.val (.ref a1)] [(.int (0 : Int32)), (.ref el)]))
  refine own_by (fun t k => XS.aloadN X107.here hx rfl (hb hby own_d24_8) rfl rfl k) ?_
  show own_Go p.tables e below K (T107.setTop (mkF m 9 #[.val (.ref a1)] [(.ref a1), (.int (0 : Int32)), (.ref el)]))
  obtain ⟨T108, X108, e108, st108⟩ := getF X107 hx hZ hown (host := "") (Or.inl (hw _ (List.mem_of_getElem? (i := 153) rfl))) Via.refl e107 B0.2.2.2.1 (g := (mkF m 9 #[.val (.ref a1)] [(.ref a1), (.int (0 : Int32)), (.ref el)])) rfl rfl (hb hby own_d24_9)
  refine own_by st108 ?_
  show own_Go p.tables e below K (T108.setTop (mkF m 12 #[.val (.ref a1)] [(.int (2 : Int32)), (.int (0 : Int32)), (.ref el)]))
  obtain ⟨_, _, ⟨T109, L109, k109, n109⟩, -, X109, ⟨Lc109, hQ109, l109, y109, z109⟩, st109⟩ := Jvm.LawKit.callS X108 hx (y := (⟨"java/util/ArrayDeque", "circularClear", "([Ljava/lang/Object;II)V"⟩ : MethodName)) hown (mvT hZ (hw _ (List.mem_of_getElem? (i := 205) rfl))) (mvT hZ (hw _ (List.mem_of_getElem? (i := 206) rfl))) (mvT hZ (hw _ (List.mem_of_getElem? (i := 59) rfl))) (mvT hZ (hw _ (List.mem_of_getElem? (i := 207) rfl))) (by decide) (backOf (W := 0) (own_rmcir2 l Z aw hw [] el k h0 n0 Z0 B0.2.2.2.2.1 ge) hZ (hw _ (List.mem_of_getElem? (i := 207) rfl)) (hw _ (List.mem_of_getElem? (i := 59) rfl)) (by decide) (by decide)) (g := (mkF m 12 #[.val (.ref a1)] [(.int (2 : Int32)), (.int (0 : Int32)), (.ref el)])) rfl (by rw [hml]; rfl) (argsL := [(.ref el), (.int (0 : Int32)), (.int (2 : Int32))]) (rest := []) (lenOf own_pd10 rfl) rfl (by show 2 * 0 + _ ≤ _; exact Nat.le_of_eq rfl) (hb hby own_d24_12) (fun _ _ => ⟨rfl, e108, (by decide : 0 + 0 ≤ _), (by decide : 0 + 0 ≤ _)⟩)
  dsimp only [Pt.U, Pt.locs, Pt.cells, Pt.slots] at X109 l109 y109 z109 st109 hQ109
  subst l109 y109 z109
  obtain ⟨rfl, N109q, Kp109, Bp109⟩ := hQ109
  have N109 := Fr.app N0 N109q
  refine own_by st109 ?_
  have F109_elements_a1 := B0.2.1.keep Kp109 (ninS (own_Ar.ne B0.1 B0.2.2.2.2.1 (hw _ (List.mem_of_getElem? (i := 58) rfl))) nin0)
  have F109_head_a1 := B0.2.2.1.keep Kp109 (ninS (own_Ar.ne B0.1 B0.2.2.2.2.1 (hw _ (List.mem_of_getElem? (i := 58) rfl))) nin0)
  have F109_tail_a1 := B0.2.2.2.1.keep Kp109 (ninS (own_Ar.ne B0.1 B0.2.2.2.2.1 (hw _ (List.mem_of_getElem? (i := 58) rfl))) nin0)
  have Ex109_a1 := B0.1.keep Kp109
  have K109 := (Keep.refl h0 [a1, el]).trans Kp109 (allS (Or.inl (by simp)) (all0))
  have Z109 := Nat.le_trans Z0 Kp109.1
  show own_Go p.tables e below K (T109.setTop (mkF m 15 #[.val (.ref a1)] []))
  refine own_by (fun t k => XS.aloadN X109.here hx rfl (hb hby own_d24_15) rfl rfl k) ?_
  show own_Go p.tables e below K (T109.setTop (mkF m 16 #[.val (.ref a1)] [(.ref a1)]))
  refine own_by (fun t k => XS.aloadN X109.here hx rfl (hb hby own_d24_16) rfl rfl k) ?_
  show own_Go p.tables e below K (T109.setTop (mkF m 17 #[.val (.ref a1)] [(.ref a1), (.ref a1)]))
  refine own_by (fun t k => XS.iconst X109.here hx rfl (hb hby own_d24_17) k) ?_
  show own_Go p.tables e below K (T109.setTop (mkF m 18 #[.val (.ref a1)] [(.int (0 : Int32)), (.ref a1), (.ref a1)]))
  refine own_by (fun t k => XS.dupX1 X109.here hx rfl (hb hby own_d24_18) rfl rfl rfl k) ?_
  show own_Go p.tables e below K (T109.setTop (mkF m 19 #[.val (.ref a1)] [(.int (0 : Int32)), (.ref a1), (.int (0 : Int32)), (.ref a1)]))
  obtain ⟨T110, h110, X110, e110, W110, st110⟩ := putF X109 hx hZ hown (host := "") (Or.inl (hw _ (List.mem_of_getElem? (i := 153) rfl))) Via.refl rfl F109_tail_a1 Ex109_a1 (Or.inl (hw _ (List.mem_of_getElem? (i := 154) rfl))) (hw _ (List.mem_of_getElem? (i := 58) rfl)) (ty := .int) (by decide) rfl rfl (g := (mkF m 19 #[.val (.ref a1)] [(.int (0 : Int32)), (.ref a1), (.int (0 : Int32)), (.ref a1)])) rfl rfl (hb hby own_d24_19)
  refine own_by st110 ?_
  have F110_elements_a1 := F109_elements_a1.other W110 (Or.inr (slot_ne (Or.inl (hw _ (List.mem_of_getElem? (i := 68) rfl))) (Or.inl (hw _ (List.mem_of_getElem? (i := 154) rfl))) (by decide) (t := (.array (.object "java/lang/Object"))) (t' := .int) (by decide) (by decide)))
  have F110_head_a1 := F109_head_a1.other W110 (Or.inr (slot_ne (Or.inl (hw _ (List.mem_of_getElem? (i := 157) rfl))) (Or.inl (hw _ (List.mem_of_getElem? (i := 154) rfl))) (by decide) (t := .int) (t' := .int) (by decide) (by decide)))
  have F110_tail_a1 := F109_tail_a1.same W110
  have xa110_el := Bp109.other W110 (Ne.symm (own_Ar.ne Ex109_a1 Bp109 (hw _ (List.mem_of_getElem? (i := 58) rfl))))
  have Ex110_a1 := Ex109_a1.wr W110
  have K110 := K109.wr W110 (Or.inl (by simp))
  have Z110 := Nat.le_trans Z109 (Keep.of_wr W110).1
  have N110 := Fr.snoc X110 N109 ga
  show own_Go p.tables e below K (T110.setTop (mkF m 22 #[.val (.ref a1)] [(.int (0 : Int32)), (.ref a1)]))
  obtain ⟨T111, h111, X111, e111, W111, st111⟩ := putF X110 hx hZ hown (host := "") (Or.inl (hw _ (List.mem_of_getElem? (i := 156) rfl))) Via.refl e110 F110_head_a1 Ex110_a1 (Or.inl (hw _ (List.mem_of_getElem? (i := 157) rfl))) (hw _ (List.mem_of_getElem? (i := 58) rfl)) (ty := .int) (by decide) rfl rfl (g := (mkF m 22 #[.val (.ref a1)] [(.int (0 : Int32)), (.ref a1)])) rfl rfl (hb hby own_d24_22)
  refine own_by st111 ?_
  have F111_elements_a1 := F110_elements_a1.other W111 (Or.inr (slot_ne (Or.inl (hw _ (List.mem_of_getElem? (i := 68) rfl))) (Or.inl (hw _ (List.mem_of_getElem? (i := 157) rfl))) (by decide) (t := (.array (.object "java/lang/Object"))) (t' := .int) (by decide) (by decide)))
  have F111_head_a1 := F110_head_a1.same W111
  have F111_tail_a1 := F110_tail_a1.other W111 (Or.inr (slot_ne (Or.inl (hw _ (List.mem_of_getElem? (i := 154) rfl))) (Or.inl (hw _ (List.mem_of_getElem? (i := 157) rfl))) (by decide) (t := .int) (t' := .int) (by decide) (by decide)))
  have xa111_el := xa110_el.other W111 (Ne.symm (own_Ar.ne Ex110_a1 xa110_el (hw _ (List.mem_of_getElem? (i := 58) rfl))))
  have Ex111_a1 := Ex110_a1.wr W111
  have K111 := K110.wr W111 (Or.inl (by simp))
  have Z111 := Nat.le_trans Z110 (Keep.of_wr W111).1
  have N111 := Fr.snoc X111 N110 ga
  show own_Go p.tables e below K (T111.setTop (mkF m 25 #[.val (.ref a1)] []))
  exact own_retV X111 hx hret (hb hby own_d24_25) (hK none X111 (fun _ => rfl) (by rw [e111]; exact ⟨rfl, N111, K111, ⟨Ex111_a1, F111_elements_a1, F111_head_a1, F111_tail_a1, xa111_el, B0.2.2.2.2.2⟩⟩) (by decide) (by decide))
theorem own_pd11 : parseMethodDescriptor "(J)Z" = some ⟨[.long], some .boolean⟩ := by decide +kernel
theorem own_d21_0 : decode prog_49_method_6_code 0 = .ok (.aload_n 0, 1) := by decide +kernel
theorem own_d21_1 : decode prog_49_method_6_code 1 = .ok (.invokevirtual 145, 3) := by decide +kernel
theorem own_d21_4 : decode prog_49_method_6_code 4 = .ok (.ifCond .ne 39, 3) := by decide +kernel
theorem own_d21_7 : decode prog_49_method_6_code 7 = .ok (.aload_n 0, 1) := by decide +kernel
theorem own_d21_8 : decode prog_49_method_6_code 8 = .ok (.lload_n 1, 1) := by decide +kernel
theorem own_d21_9 : decode prog_49_method_6_code 9 = .ok (.invokevirtual 127, 3) := by decide +kernel
theorem own_d21_12 : decode prog_49_method_6_code 12 = .ok (.ifCond .eq 31, 3) := by decide +kernel
theorem own_d21_15 : decode prog_49_method_6_code 15 = .ok (.aload_n 0, 1) := by decide +kernel
theorem own_d21_16 : decode prog_49_method_6_code 16 = .ok (.getfield 12, 3) := by decide +kernel
theorem own_d21_19 : decode prog_49_method_6_code 19 = .ok (.invokeinterface 148 1, 5) := by decide +kernel
theorem own_d21_24 : decode prog_49_method_6_code 24 = .ok (.aload_n 0, 1) := by decide +kernel
theorem own_d21_25 : decode prog_49_method_6_code 25 = .ok (.getfield 21, 3) := by decide +kernel
theorem own_d21_28 : decode prog_49_method_6_code 28 = .ok (.invokeinterface 151 1, 5) := by decide +kernel
theorem own_d21_33 : decode prog_49_method_6_code 33 = .ok (.aload_n 0, 1) := by decide +kernel
theorem own_d21_34 : decode prog_49_method_6_code 34 = .ok (.lconst 0, 1) := by decide +kernel
theorem own_d21_35 : decode prog_49_method_6_code 35 = .ok (.putfield 101, 3) := by decide +kernel
theorem own_d21_38 : decode prog_49_method_6_code 38 = .ok (.aload_n 0, 1) := by decide +kernel
theorem own_d21_39 : decode prog_49_method_6_code 39 = .ok (.lconst 0, 1) := by decide +kernel
theorem own_d21_40 : decode prog_49_method_6_code 40 = .ok (.putfield 85, 3) := by decide +kernel
theorem own_d21_43 : decode prog_49_method_6_code 43 = .ok (.return_, 1) := by decide +kernel
theorem own_effgt0 (m : MethodId) (a1 : Addr) (q1 : Int64) : entryFrame m #[(.ref a1), (.long q1)] 3 = mkF m 0 #[.val (.ref a1), .val (.long q1), .second] [] := by first | (simp [entryFrame, mkF, argsToLocals, Value.category]; done) | rfl
def own_Qfgt0 (Z : State) (a1 : Addr) (q1 : Int64) (hm : Addr) (dq : Addr) (el : Addr) (k : ClassId) (mc : Int32) (la : Int64) (h0 : Heap) (n0 : Nat) (v : Option Value) (h : Heap) (L : List Loc) : Prop := v = none ∧ Fr n0 L ∧ Exa Z h a1 "com/example/predicate/predicate/engine/FoldedTransactions" ∧ Fld Z h a1 "com/example/predicate/predicate/engine/FoldedTransactions" "last" "J" (.long (own_fgt la q1))
set_option maxRecDepth 65536 in
set_option maxHeartbeats 40000000 in
theorem own_rmfgt0 (l : Launch) (Z : State) (aw : Array Value) (hw : ∀ d ∈ tables_1, d.before aw Z = true) (ws : List Jvm.Cond) (a1 : Addr) (q1 : Int64) (hm : Addr) (dq : Addr) (el : Addr) (k : ClassId) (mc : Int32) (la : Int64) (h0 : Heap) (n0 : Nat) (Z0 : n0 ≤ h0.size) (B0 : own_FT Z h0 a1 hm dq el k mc (0 : Int32) la) (ga : n0 ≤ a1) (gh : n0 ≤ hm) (gd : n0 ≤ dq) (ge : n0 ≤ el) :
    MetFree l (⟨"com/example/predicate/predicate/engine/FoldedTransactions", "forgetSeenWithin", "(J)V"⟩ : MethodName) (head1 (Jvm.Cond.code (⟨"com/example/predicate/predicate/engine/FoldedTransactions", "forgetSeenWithin", "(J)V"⟩ : MethodName) prog_49_method_6_code 3 none :: ws) ({ frames := 2, cells := 0, slots := 0, locals := 60 } : Room)) (fun a U => a = #[(.ref a1), (.long q1)] ∧ Z.Warmed39 U.vm ∧ U.heap = h0) (fun _ _ _ _ _ => True) (fun _ U o U' => ∃ v L, o = .returned v ∧ own_Qfgt0 Z a1 q1 hm dq el k mc la h0 n0 v U'.heap L ∧ FrameEnd U o U' L ({ frames := 2, cells := 0, slots := 0, locals := 60 } : Room).cells ({ frames := 2, cells := 0, slots := 0, locals := 60 } : Room).slots) := by
  refine own_met (Q := own_Qfgt0 Z a1 q1 hm dq el k mc la h0 n0) (plainFor_of_name own_pn6) ?_
  intro p e s m below meth c s₁ K hx hby hml hown hnm hret hZ X0 e0 hK
  have hown : s.vm.findClass "com/example/predicate/predicate/engine/FoldedTransactions" = some m.cls := hown
  have N0 := Fr.nil n0
  refine own_by (fun t k => castTop (own_effgt0 m a1 q1) k) ?_
  show own_Go p.tables e below K (s₁.setTop (mkF m 0 #[.val (.ref a1), .val (.long q1), .second] []))
  refine own_by (fun t k => XS.aloadN X0.here hx rfl (hb hby own_d21_0) rfl rfl k) ?_
  show own_Go p.tables e below K (s₁.setTop (mkF m 1 #[.val (.ref a1), .val (.long q1), .second] [(.ref a1)]))
  obtain ⟨cq112, kq112, q112a, q112b, q112c⟩ := isOf hZ e0 B0.1
  obtain ⟨_, _, ⟨T112, L112, k112, n112⟩, -, X112, ⟨Lc112, hQ112, l112, y112, z112⟩, st112⟩ := X0.virtualBack hx (y := (⟨"com/example/predicate/predicate/engine/FoldedTransactions", "isEmpty", "()Z"⟩ : MethodName)) (z := (⟨"com/example/predicate/predicate/engine/FoldedTransactions", "isEmpty", "()Z"⟩ : MethodName)) hown (mvT hZ (hw _ (List.mem_of_getElem? (i := 178) rfl))) (mvT hZ (hw _ (List.mem_of_getElem? (i := 72) rfl))) (notFace_of_selects (args := #[]) (mvT hZ (hw _ (List.mem_of_getElem? (i := 74) rfl)))) (mvT hZ (hw _ (List.mem_of_getElem? (i := 74) rfl))) (mvT hZ (hw _ (List.mem_of_getElem? (i := 73) rfl))) (by decide) (backOf (W := 0) (own_rmemp l Z aw hw [] a1 la h0 n0 Z0 B0.2.2.2.2.1) hZ (hw _ (List.mem_of_getElem? (i := 75) rfl)) (hw _ (List.mem_of_getElem? (i := 34) rfl)) (by decide) (by decide)) q112a q112c (g := (mkF m 1 #[.val (.ref a1), .val (.long q1), .second] [(.ref a1)])) rfl (by rw [hml]; rfl) (Steps.refl _) (argsL := []) (rest := []) (lenOf own_pd5 rfl) rfl (by show 2 * 0 + _ ≤ _; exact Nat.le_of_eq rfl) (hb hby own_d21_1) (fun _ _ => ⟨rfl, e0, (by decide : 0 + 0 ≤ _), (by decide : 0 + 0 ≤ _)⟩)
  dsimp only [Pt.U, Pt.locs, Pt.cells, Pt.slots] at X112 l112 y112 z112 st112 hQ112
  subst l112 y112 z112
  obtain ⟨rfl, N112q, e112⟩ := hQ112
  have N112 := Fr.app N0 N112q
  refine own_by (fun t k => st112.trans k) ?_
  show own_Go p.tables e below K (T112.setTop (mkF m 4 #[.val (.ref a1), .val (.long q1), .second] [(.int (own_emp la))]))
  by_cases hc4 : (own_emp la) = (0 : Int32)
  · refine own_by (fun t k => XS.ifNo X112.here hx rfl (hb hby own_d21_4) rfl ((if0 _ _).trans (teq hc4).2) k) ?_
    show own_Go p.tables e below K (T112.setTop (mkF m 7 #[.val (.ref a1), .val (.long q1), .second] []))
    refine own_by (fun t k => XS.aloadN X112.here hx rfl (hb hby own_d21_7) rfl rfl k) ?_
    show own_Go p.tables e below K (T112.setTop (mkF m 8 #[.val (.ref a1), .val (.long q1), .second] [(.ref a1)]))
    refine own_by (fun t k => XS.lloadN X112.here hx rfl (hb hby own_d21_8) rfl k) ?_
    show own_Go p.tables e below K (T112.setTop (mkF m 9 #[.val (.ref a1), .val (.long q1), .second] [(.long q1), (.ref a1)]))
    obtain ⟨cq113, kq113, q113a, q113b, q113c⟩ := isOf hZ e112 B0.1
    obtain ⟨_, _, ⟨T113, L113, k113, n113⟩, -, X113, ⟨Lc113, hQ113, l113, y113, z113⟩, st113⟩ := X112.virtualBack hx (y := (⟨"com/example/predicate/predicate/engine/FoldedTransactions", "seenWithin", "(J)Z"⟩ : MethodName)) (z := (⟨"com/example/predicate/predicate/engine/FoldedTransactions", "seenWithin", "(J)Z"⟩ : MethodName)) hown (mvT hZ (hw _ (List.mem_of_getElem? (i := 179) rfl))) (mvT hZ (hw _ (List.mem_of_getElem? (i := 180) rfl))) (notFace_of_selects (args := #[]) (mvT hZ (hw _ (List.mem_of_getElem? (i := 182) rfl)))) (mvT hZ (hw _ (List.mem_of_getElem? (i := 182) rfl))) (mvT hZ (hw _ (List.mem_of_getElem? (i := 181) rfl))) (by decide) (backOf (W := 0) (own_rmseen l Z aw hw [] a1 q1 la h0 n0 Z0 B0.2.2.2.2.1) hZ (hw _ (List.mem_of_getElem? (i := 183) rfl)) (hw _ (List.mem_of_getElem? (i := 34) rfl)) (by decide) (by decide)) q113a q113c (g := (mkF m 9 #[.val (.ref a1), .val (.long q1), .second] [(.long q1), (.ref a1)])) rfl (by rw [hml]; rfl) (Steps.refl _) (argsL := [(.long q1)]) (rest := []) (lenOf own_pd11 rfl) rfl (by show 2 * 0 + _ ≤ _; exact Nat.le_of_eq rfl) (hb hby own_d21_9) (fun _ _ => ⟨rfl, e112, (by decide : 0 + 0 ≤ _), (by decide : 0 + 0 ≤ _)⟩)
    dsimp only [Pt.U, Pt.locs, Pt.cells, Pt.slots] at X113 l113 y113 z113 st113 hQ113
    subst l113 y113 z113
    obtain ⟨rfl, N113q, e113⟩ := hQ113
    have N113 := Fr.app N112 N113q
    refine own_by (fun t k => st113.trans k) ?_
    show own_Go p.tables e below K (T113.setTop (mkF m 12 #[.val (.ref a1), .val (.long q1), .second] [(.int (own_seen la q1))]))
    by_cases hc12 : (own_seen la q1) = (0 : Int32)
    · refine own_by (fun t k => XS.ifYes X113.here hx rfl (pc0 := 12) (pc' := 43) rfl (hb hby own_d21_12) rfl ((if0 _ _).trans (teq hc12).1) (by decide) (by decide) k) ?_
      show own_Go p.tables e below K (T113.setTop (mkF m 43 #[.val (.ref a1), .val (.long q1), .second] []))
      have hfg : own_fgt la q1 = la := by unfold own_emp at hc4; unfold own_fgt; simp_all [own_seen]
      exact own_retV X113 hx hret (hb hby own_d21_43) (hK none X113 (fun _ => rfl) (by rw [e113]; exact ⟨rfl, N113, B0.1, by rw [hfg]; exact B0.2.2.2.2.1⟩) (by decide) (by decide))
    · refine own_by (fun t k => XS.ifNo X113.here hx rfl (hb hby own_d21_12) rfl ((if0 _ _).trans (feq hc12).1) k) ?_
      show own_Go p.tables e below K (T113.setTop (mkF m 15 #[.val (.ref a1), .val (.long q1), .second] []))
      refine own_by (fun t k => XS.aloadN X113.here hx rfl (hb hby own_d21_15) rfl rfl k) ?_
      show own_Go p.tables e below K (T113.setTop (mkF m 16 #[.val (.ref a1), .val (.long q1), .second] [(.ref a1)]))
      obtain ⟨T114, X114, e114, st114⟩ := getF X113 hx hZ hown (host := "") (Or.inl (hw _ (List.mem_of_getElem? (i := 55) rfl))) Via.refl e113 B0.2.1 (g := (mkF m 16 #[.val (.ref a1), .val (.long q1), .second] [(.ref a1)])) rfl rfl (hb hby own_d21_16)
      refine own_by st114 ?_
      show own_Go p.tables e below K (T114.setTop (mkF m 19 #[.val (.ref a1), .val (.long q1), .second] [(.ref hm)]))
      obtain ⟨cq115, kq115, q115a, q115b, q115c⟩ := isOf hZ e114 B0.2.2.2.2.2.1.1
      obtain ⟨_, _, ⟨T115, L115, k115, n115⟩, -, X115, ⟨Lc115, hQ115, l115, y115, z115⟩, st115⟩ := X114.interfaceBack hx (xi := (⟨"java/util/Map", "clear", "()V"⟩ : MethodName)) (y := (⟨"java/util/HashMap", "clear", "()V"⟩ : MethodName)) hown (mvT hZ (hw _ (List.mem_of_getElem? (i := 184) rfl))) (mvT hZ (hw _ (List.mem_of_getElem? (i := 185) rfl))) (mvT hZ (hw _ (List.mem_of_getElem? (i := 186) rfl))) (mvT hZ (hw _ (List.mem_of_getElem? (i := 187) rfl))) (mvT hZ (hw _ (List.mem_of_getElem? (i := 188) rfl))) (mvT hZ (hw _ (List.mem_of_getElem? (i := 189) rfl))) (mvT hZ (hw _ (List.mem_of_getElem? (i := 190) rfl))) (mvT hZ (hw _ (List.mem_of_getElem? (i := 191) rfl))) (by decide) (backOf (W := 0) (own_rmhmc l Z aw hw [] hm mc h0 n0 Z0 ⟨B0.2.2.2.2.2.1.1, B0.2.2.2.2.2.1.2.1, B0.2.2.2.2.2.1.2.2⟩ gh) hZ (hw _ (List.mem_of_getElem? (i := 192) rfl)) (hw _ (List.mem_of_getElem? (i := 41) rfl)) (by decide) (by decide)) q115a q115b q115c (g := (mkF m 19 #[.val (.ref a1), .val (.long q1), .second] [(.ref hm)])) rfl (by rw [hml]; rfl) (Steps.refl _) (argsL := []) (rest := []) (lenOf own_pd0 rfl) rfl (by show 2 * 0 + _ ≤ _; exact Nat.le_of_eq rfl) (hb hby own_d21_19) (fun _ _ => ⟨rfl, e114, (by decide : 0 + 0 ≤ _), (by decide : 0 + 0 ≤ _)⟩)
      dsimp only [Pt.U, Pt.locs, Pt.cells, Pt.slots] at X115 l115 y115 z115 st115 hQ115
      subst l115 y115 z115
      obtain ⟨rfl, N115q, Kp115, mc115, Bp115⟩ := hQ115
      have N115 := Fr.app N113 N115q
      refine own_by (fun t k => st115.trans k) ?_
      have xa115_el := B0.2.2.2.2.2.2.2.2.2.2.1.keep Kp115 (ninS (Ne.symm (own_Ar.ne B0.2.2.2.2.2.1.1 B0.2.2.2.2.2.2.2.2.2.2.1 (hw _ (List.mem_of_getElem? (i := 40) rfl)))) nin0)
      have F115_tables_a1 := B0.2.1.keep Kp115 (ninS (Exa.ne B0.1 B0.2.2.2.2.2.1.1 (by decide)) nin0)
      have F115_pivots_a1 := B0.2.2.1.keep Kp115 (ninS (Exa.ne B0.1 B0.2.2.2.2.2.1.1 (by decide)) nin0)
      have F115_pivotWrites_a1 := B0.2.2.2.1.keep Kp115 (ninS (Exa.ne B0.1 B0.2.2.2.2.2.1.1 (by decide)) nin0)
      have F115_last_a1 := B0.2.2.2.2.1.keep Kp115 (ninS (Exa.ne B0.1 B0.2.2.2.2.2.1.1 (by decide)) nin0)
      have F115_elements_dq := B0.2.2.2.2.2.2.2.1.keep Kp115 (ninS (Exa.ne B0.2.2.2.2.2.2.1 B0.2.2.2.2.2.1.1 (by decide)) nin0)
      have F115_head_dq := B0.2.2.2.2.2.2.2.2.1.keep Kp115 (ninS (Exa.ne B0.2.2.2.2.2.2.1 B0.2.2.2.2.2.1.1 (by decide)) nin0)
      have F115_tail_dq := B0.2.2.2.2.2.2.2.2.2.1.keep Kp115 (ninS (Exa.ne B0.2.2.2.2.2.2.1 B0.2.2.2.2.2.1.1 (by decide)) nin0)
      have Ex115_a1 := B0.1.keep Kp115
      have Ex115_hm := B0.2.2.2.2.2.1.1.keep Kp115
      have Ex115_dq := B0.2.2.2.2.2.2.1.keep Kp115
      have Z115 := Nat.le_trans Z0 Kp115.1
      show own_Go p.tables e below K (T115.setTop (mkF m 24 #[.val (.ref a1), .val (.long q1), .second] []))
      refine own_by (fun t k => XS.aloadN X115.here hx rfl (hb hby own_d21_24) rfl rfl k) ?_
      show own_Go p.tables e below K (T115.setTop (mkF m 25 #[.val (.ref a1), .val (.long q1), .second] [(.ref a1)]))
      obtain ⟨T116, X116, e116, st116⟩ := getF X115 hx hZ hown (host := "") (Or.inl (hw _ (List.mem_of_getElem? (i := 69) rfl))) Via.refl rfl F115_pivots_a1 (g := (mkF m 25 #[.val (.ref a1), .val (.long q1), .second] [(.ref a1)])) rfl rfl (hb hby own_d21_25)
      refine own_by st116 ?_
      show own_Go p.tables e below K (T116.setTop (mkF m 28 #[.val (.ref a1), .val (.long q1), .second] [(.ref dq)]))
      obtain ⟨cq117, kq117, q117a, q117b, q117c⟩ := isOf hZ e116 Ex115_dq
      obtain ⟨_, _, ⟨T117, L117, k117, n117⟩, -, X117, ⟨Lc117, hQ117, l117, y117, z117⟩, st117⟩ := own_faceBack X116 hx (xi := (⟨"java/util/Deque", "clear", "()V"⟩ : MethodName)) (y := (⟨"java/util/ArrayDeque", "clear", "()V"⟩ : MethodName)) (J := "java/util/Collection") hown (mvT hZ (hw _ (List.mem_of_getElem? (i := 197) rfl))) (mvT hZ (hw _ (List.mem_of_getElem? (i := 198) rfl))) (own_faceMv hZ (hw _ (List.mem_of_getElem? (i := 199) rfl))) (by decide) (mvT hZ (hw _ (List.mem_of_getElem? (i := 200) rfl))) (mvT hZ (hw _ (List.mem_of_getElem? (i := 201) rfl))) (mvT hZ (hw _ (List.mem_of_getElem? (i := 202) rfl))) (mvT hZ (hw _ (List.mem_of_getElem? (i := 203) rfl))) (mvT hZ (hw _ (List.mem_of_getElem? (i := 146) rfl))) (by decide) (by decide) (backOf (W := 0) (own_rmdqc0 l Z aw hw [] dq el k T115.heap n0 Z115 ⟨Ex115_dq, F115_elements_dq, F115_head_dq, F115_tail_dq, xa115_el, B0.2.2.2.2.2.2.2.2.2.2.2⟩ gd ge) hZ (hw _ (List.mem_of_getElem? (i := 204) rfl)) (hw _ (List.mem_of_getElem? (i := 59) rfl)) (by decide) (by decide)) q117a q117b q117c (g := (mkF m 28 #[.val (.ref a1), .val (.long q1), .second] [(.ref dq)])) rfl (by rw [hml]; rfl) (Steps.refl _) (argsL := []) (rest := []) (lenOf own_pd0 rfl) rfl (by show 2 * 0 + _ ≤ _; exact Nat.le_of_eq rfl) (hb hby own_d21_28) (fun _ _ => ⟨rfl, e116, (by decide : 0 + 0 ≤ _), (by decide : 0 + 0 ≤ _)⟩)
      dsimp only [Pt.U, Pt.locs, Pt.cells, Pt.slots] at X117 l117 y117 z117 st117 hQ117
      subst l117 y117 z117
      obtain ⟨rfl, N117q, Kp117, Bp117⟩ := hQ117
      have N117 := Fr.app N115 N117q
      refine own_by (fun t k => st117.trans k) ?_
      have F117_tables_a1 := F115_tables_a1.keep Kp117 (ninS (Exa.ne Ex115_a1 Ex115_dq (by decide)) (ninS (own_Ar.ne Ex115_a1 xa115_el (hw _ (List.mem_of_getElem? (i := 33) rfl))) nin0))
      have F117_pivots_a1 := F115_pivots_a1.keep Kp117 (ninS (Exa.ne Ex115_a1 Ex115_dq (by decide)) (ninS (own_Ar.ne Ex115_a1 xa115_el (hw _ (List.mem_of_getElem? (i := 33) rfl))) nin0))
      have F117_pivotWrites_a1 := F115_pivotWrites_a1.keep Kp117 (ninS (Exa.ne Ex115_a1 Ex115_dq (by decide)) (ninS (own_Ar.ne Ex115_a1 xa115_el (hw _ (List.mem_of_getElem? (i := 33) rfl))) nin0))
      have F117_last_a1 := F115_last_a1.keep Kp117 (ninS (Exa.ne Ex115_a1 Ex115_dq (by decide)) (ninS (own_Ar.ne Ex115_a1 xa115_el (hw _ (List.mem_of_getElem? (i := 33) rfl))) nin0))
      have F117_modCount_hm := Bp115.2.1.keep Kp117 (ninS (Exa.ne Bp115.1 Ex115_dq (by decide)) (ninS (own_Ar.ne Bp115.1 xa115_el (hw _ (List.mem_of_getElem? (i := 40) rfl))) nin0))
      have F117_table_hm := Bp115.2.2.keep Kp117 (ninS (Exa.ne Bp115.1 Ex115_dq (by decide)) (ninS (own_Ar.ne Bp115.1 xa115_el (hw _ (List.mem_of_getElem? (i := 40) rfl))) nin0))
      have Ex117_a1 := Ex115_a1.keep Kp117
      have Ex117_hm := Bp115.1.keep Kp117
      have Ex117_dq := Ex115_dq.keep Kp117
      have Z117 := Nat.le_trans Z115 Kp117.1
      show own_Go p.tables e below K (T117.setTop (mkF m 33 #[.val (.ref a1), .val (.long q1), .second] []))
      refine own_by (fun t k => XS.aloadN X117.here hx rfl (hb hby own_d21_33) rfl rfl k) ?_
      show own_Go p.tables e below K (T117.setTop (mkF m 34 #[.val (.ref a1), .val (.long q1), .second] [(.ref a1)]))
      refine own_by (fun t k => XS.lconst X117.here hx rfl (hb hby own_d21_34) k) ?_
      show own_Go p.tables e below K (T117.setTop (mkF m 35 #[.val (.ref a1), .val (.long q1), .second] [(.long (0 : Int64)), (.ref a1)]))
      obtain ⟨T118, h118, X118, e118, W118, st118⟩ := putF X117 hx hZ hown (host := "") (Or.inl (hw _ (List.mem_of_getElem? (i := 161) rfl))) Via.refl rfl F117_pivotWrites_a1 Ex117_a1 (Or.inl (hw _ (List.mem_of_getElem? (i := 162) rfl))) (hw _ (List.mem_of_getElem? (i := 33) rfl)) (ty := .long) (by decide) rfl rfl (g := (mkF m 35 #[.val (.ref a1), .val (.long q1), .second] [(.long (0 : Int64)), (.ref a1)])) rfl rfl (hb hby own_d21_35)
      refine own_by st118 ?_
      have F118_tables_a1 := F117_tables_a1.other W118 (Or.inr (slot_ne (Or.inr (hw _ (List.mem_of_getElem? (i := 56) rfl))) (Or.inl (hw _ (List.mem_of_getElem? (i := 162) rfl))) (by decide) (t := (.object "java/util/Map")) (t' := .long) (by decide) (by decide)))
      have F118_pivots_a1 := F117_pivots_a1.other W118 (Or.inr (slot_ne (Or.inr (hw _ (List.mem_of_getElem? (i := 70) rfl))) (Or.inl (hw _ (List.mem_of_getElem? (i := 162) rfl))) (by decide) (t := (.object "java/util/Deque")) (t' := .long) (by decide) (by decide)))
      have F118_pivotWrites_a1 := F117_pivotWrites_a1.same W118
      have F118_last_a1 := F117_last_a1.other W118 (Or.inr (slot_ne (Or.inl (hw _ (List.mem_of_getElem? (i := 77) rfl))) (Or.inl (hw _ (List.mem_of_getElem? (i := 162) rfl))) (by decide) (t := .long) (t' := .long) (by decide) (by decide)))
      have F118_modCount_hm := F117_modCount_hm.other W118 (Or.inl (Exa.ne Ex117_hm Ex117_a1 (by decide)))
      have F118_table_hm := F117_table_hm.other W118 (Or.inl (Exa.ne Ex117_hm Ex117_a1 (by decide)))
      have F118_elements_dq := Bp117.2.1.other W118 (Or.inl (Exa.ne Bp117.1 Ex117_a1 (by decide)))
      have F118_head_dq := Bp117.2.2.1.other W118 (Or.inl (Exa.ne Bp117.1 Ex117_a1 (by decide)))
      have F118_tail_dq := Bp117.2.2.2.1.other W118 (Or.inl (Exa.ne Bp117.1 Ex117_a1 (by decide)))
      have xa118_el := Bp117.2.2.2.2.1.other W118 (Ne.symm (own_Ar.ne Ex117_a1 Bp117.2.2.2.2.1 (hw _ (List.mem_of_getElem? (i := 33) rfl))))
      have Ex118_a1 := Ex117_a1.wr W118
      have Ex118_hm := Ex117_hm.wr W118
      have Ex118_dq := Bp117.1.wr W118
      have Z118 := Nat.le_trans Z117 (Keep.of_wr W118).1
      have N118 := Fr.snoc X118 N117 ga
      show own_Go p.tables e below K (T118.setTop (mkF m 38 #[.val (.ref a1), .val (.long q1), .second] []))
      refine own_by (fun t k => XS.aloadN X118.here hx rfl (hb hby own_d21_38) rfl rfl k) ?_
      show own_Go p.tables e below K (T118.setTop (mkF m 39 #[.val (.ref a1), .val (.long q1), .second] [(.ref a1)]))
      refine own_by (fun t k => XS.lconst X118.here hx rfl (hb hby own_d21_39) k) ?_
      show own_Go p.tables e below K (T118.setTop (mkF m 40 #[.val (.ref a1), .val (.long q1), .second] [(.long (0 : Int64)), (.ref a1)]))
      obtain ⟨T119, h119, X119, e119, W119, st119⟩ := putF X118 hx hZ hown (host := "") (Or.inl (hw _ (List.mem_of_getElem? (i := 76) rfl))) Via.refl e118 F118_last_a1 Ex118_a1 (Or.inl (hw _ (List.mem_of_getElem? (i := 77) rfl))) (hw _ (List.mem_of_getElem? (i := 33) rfl)) (ty := .long) (by decide) rfl rfl (g := (mkF m 40 #[.val (.ref a1), .val (.long q1), .second] [(.long (0 : Int64)), (.ref a1)])) rfl rfl (hb hby own_d21_40)
      refine own_by st119 ?_
      have F119_tables_a1 := F118_tables_a1.other W119 (Or.inr (slot_ne (Or.inr (hw _ (List.mem_of_getElem? (i := 56) rfl))) (Or.inl (hw _ (List.mem_of_getElem? (i := 77) rfl))) (by decide) (t := (.object "java/util/Map")) (t' := .long) (by decide) (by decide)))
      have F119_pivots_a1 := F118_pivots_a1.other W119 (Or.inr (slot_ne (Or.inr (hw _ (List.mem_of_getElem? (i := 70) rfl))) (Or.inl (hw _ (List.mem_of_getElem? (i := 77) rfl))) (by decide) (t := (.object "java/util/Deque")) (t' := .long) (by decide) (by decide)))
      have F119_pivotWrites_a1 := F118_pivotWrites_a1.other W119 (Or.inr (slot_ne (Or.inl (hw _ (List.mem_of_getElem? (i := 162) rfl))) (Or.inl (hw _ (List.mem_of_getElem? (i := 77) rfl))) (by decide) (t := .long) (t' := .long) (by decide) (by decide)))
      have F119_last_a1 := F118_last_a1.same W119
      have F119_modCount_hm := F118_modCount_hm.other W119 (Or.inl (Exa.ne Ex118_hm Ex118_a1 (by decide)))
      have F119_table_hm := F118_table_hm.other W119 (Or.inl (Exa.ne Ex118_hm Ex118_a1 (by decide)))
      have F119_elements_dq := F118_elements_dq.other W119 (Or.inl (Exa.ne Ex118_dq Ex118_a1 (by decide)))
      have F119_head_dq := F118_head_dq.other W119 (Or.inl (Exa.ne Ex118_dq Ex118_a1 (by decide)))
      have F119_tail_dq := F118_tail_dq.other W119 (Or.inl (Exa.ne Ex118_dq Ex118_a1 (by decide)))
      have xa119_el := xa118_el.other W119 (Ne.symm (own_Ar.ne Ex118_a1 xa118_el (hw _ (List.mem_of_getElem? (i := 33) rfl))))
      have Ex119_a1 := Ex118_a1.wr W119
      have Ex119_hm := Ex118_hm.wr W119
      have Ex119_dq := Ex118_dq.wr W119
      have Z119 := Nat.le_trans Z118 (Keep.of_wr W119).1
      have N119 := Fr.snoc X119 N118 ga
      show own_Go p.tables e below K (T119.setTop (mkF m 43 #[.val (.ref a1), .val (.long q1), .second] []))
      have hfg : own_fgt la q1 = (0 : Int64) := by unfold own_emp at hc4; unfold own_fgt; simp_all [own_seen]
      exact own_retV X119 hx hret (hb hby own_d21_43) (hK none X119 (fun _ => rfl) (by rw [e119]; exact ⟨rfl, N119, Ex119_a1, by rw [hfg]; exact F119_last_a1⟩) (by decide) (by decide))
  · refine own_by (fun t k => XS.ifYes X112.here hx rfl (pc0 := 4) (pc' := 43) rfl (hb hby own_d21_4) rfl ((if0 _ _).trans (feq hc4).2) (by decide) (by decide) k) ?_
    show own_Go p.tables e below K (T112.setTop (mkF m 43 #[.val (.ref a1), .val (.long q1), .second] []))
    have hfg : own_fgt la q1 = la := by unfold own_emp at hc4; unfold own_fgt; simp_all [own_seen]
    exact own_retV X112 hx hret (hb hby own_d21_43) (hK none X112 (fun _ => rfl) (by rw [e112]; exact ⟨rfl, N112, B0.1, by rw [hfg]; exact B0.2.2.2.2.1⟩) (by decide) (by decide))
theorem own_effgt1 (m : MethodId) (a1 : Addr) (q1 : Int64) : entryFrame m #[(.ref a1), (.long q1)] 3 = mkF m 0 #[.val (.ref a1), .val (.long q1), .second] [] := by first | (simp [entryFrame, mkF, argsToLocals, Value.category]; done) | rfl
def own_Qfgt1 (Z : State) (a1 : Addr) (q1 : Int64) (hm : Addr) (dq : Addr) (el : Addr) (k : ClassId) (mc : Int32) (la : Int64) (h0 : Heap) (n0 : Nat) (v : Option Value) (h : Heap) (L : List Loc) : Prop := v = none ∧ Fr n0 L ∧ Exa Z h a1 "com/example/predicate/predicate/engine/FoldedTransactions" ∧ Fld Z h a1 "com/example/predicate/predicate/engine/FoldedTransactions" "last" "J" (.long (own_fgt la q1))
set_option maxRecDepth 65536 in
set_option maxHeartbeats 40000000 in
theorem own_rmfgt1 (l : Launch) (Z : State) (aw : Array Value) (hw : ∀ d ∈ tables_1, d.before aw Z = true) (ws : List Jvm.Cond) (a1 : Addr) (q1 : Int64) (hm : Addr) (dq : Addr) (el : Addr) (k : ClassId) (mc : Int32) (la : Int64) (h0 : Heap) (n0 : Nat) (Z0 : n0 ≤ h0.size) (B0 : own_FT Z h0 a1 hm dq el k mc (1 : Int32) la) (ga : n0 ≤ a1) (gh : n0 ≤ hm) (gd : n0 ≤ dq) (ge : n0 ≤ el) :
    MetFree l (⟨"com/example/predicate/predicate/engine/FoldedTransactions", "forgetSeenWithin", "(J)V"⟩ : MethodName) (head1 (Jvm.Cond.code (⟨"com/example/predicate/predicate/engine/FoldedTransactions", "forgetSeenWithin", "(J)V"⟩ : MethodName) prog_49_method_6_code 3 none :: ws) ({ frames := 2, cells := 0, slots := 0, locals := 60 } : Room)) (fun a U => a = #[(.ref a1), (.long q1)] ∧ Z.Warmed39 U.vm ∧ U.heap = h0) (fun _ _ _ _ _ => True) (fun _ U o U' => ∃ v L, o = .returned v ∧ own_Qfgt1 Z a1 q1 hm dq el k mc la h0 n0 v U'.heap L ∧ FrameEnd U o U' L ({ frames := 2, cells := 0, slots := 0, locals := 60 } : Room).cells ({ frames := 2, cells := 0, slots := 0, locals := 60 } : Room).slots) := by
  refine own_met (Q := own_Qfgt1 Z a1 q1 hm dq el k mc la h0 n0) (plainFor_of_name own_pn6) ?_
  intro p e s m below meth c s₁ K hx hby hml hown hnm hret hZ X0 e0 hK
  have hown : s.vm.findClass "com/example/predicate/predicate/engine/FoldedTransactions" = some m.cls := hown
  have N0 := Fr.nil n0
  refine own_by (fun t k => castTop (own_effgt1 m a1 q1) k) ?_
  show own_Go p.tables e below K (s₁.setTop (mkF m 0 #[.val (.ref a1), .val (.long q1), .second] []))
  refine own_by (fun t k => XS.aloadN X0.here hx rfl (hb hby own_d21_0) rfl rfl k) ?_
  show own_Go p.tables e below K (s₁.setTop (mkF m 1 #[.val (.ref a1), .val (.long q1), .second] [(.ref a1)]))
  obtain ⟨cq120, kq120, q120a, q120b, q120c⟩ := isOf hZ e0 B0.1
  obtain ⟨_, _, ⟨T120, L120, k120, n120⟩, -, X120, ⟨Lc120, hQ120, l120, y120, z120⟩, st120⟩ := X0.virtualBack hx (y := (⟨"com/example/predicate/predicate/engine/FoldedTransactions", "isEmpty", "()Z"⟩ : MethodName)) (z := (⟨"com/example/predicate/predicate/engine/FoldedTransactions", "isEmpty", "()Z"⟩ : MethodName)) hown (mvT hZ (hw _ (List.mem_of_getElem? (i := 178) rfl))) (mvT hZ (hw _ (List.mem_of_getElem? (i := 72) rfl))) (notFace_of_selects (args := #[]) (mvT hZ (hw _ (List.mem_of_getElem? (i := 74) rfl)))) (mvT hZ (hw _ (List.mem_of_getElem? (i := 74) rfl))) (mvT hZ (hw _ (List.mem_of_getElem? (i := 73) rfl))) (by decide) (backOf (W := 0) (own_rmemp l Z aw hw [] a1 la h0 n0 Z0 B0.2.2.2.2.1) hZ (hw _ (List.mem_of_getElem? (i := 75) rfl)) (hw _ (List.mem_of_getElem? (i := 34) rfl)) (by decide) (by decide)) q120a q120c (g := (mkF m 1 #[.val (.ref a1), .val (.long q1), .second] [(.ref a1)])) rfl (by rw [hml]; rfl) (Steps.refl _) (argsL := []) (rest := []) (lenOf own_pd5 rfl) rfl (by show 2 * 0 + _ ≤ _; exact Nat.le_of_eq rfl) (hb hby own_d21_1) (fun _ _ => ⟨rfl, e0, (by decide : 0 + 0 ≤ _), (by decide : 0 + 0 ≤ _)⟩)
  dsimp only [Pt.U, Pt.locs, Pt.cells, Pt.slots] at X120 l120 y120 z120 st120 hQ120
  subst l120 y120 z120
  obtain ⟨rfl, N120q, e120⟩ := hQ120
  have N120 := Fr.app N0 N120q
  refine own_by (fun t k => st120.trans k) ?_
  show own_Go p.tables e below K (T120.setTop (mkF m 4 #[.val (.ref a1), .val (.long q1), .second] [(.int (own_emp la))]))
  by_cases hc4 : (own_emp la) = (0 : Int32)
  · refine own_by (fun t k => XS.ifNo X120.here hx rfl (hb hby own_d21_4) rfl ((if0 _ _).trans (teq hc4).2) k) ?_
    show own_Go p.tables e below K (T120.setTop (mkF m 7 #[.val (.ref a1), .val (.long q1), .second] []))
    refine own_by (fun t k => XS.aloadN X120.here hx rfl (hb hby own_d21_7) rfl rfl k) ?_
    show own_Go p.tables e below K (T120.setTop (mkF m 8 #[.val (.ref a1), .val (.long q1), .second] [(.ref a1)]))
    refine own_by (fun t k => XS.lloadN X120.here hx rfl (hb hby own_d21_8) rfl k) ?_
    show own_Go p.tables e below K (T120.setTop (mkF m 9 #[.val (.ref a1), .val (.long q1), .second] [(.long q1), (.ref a1)]))
    obtain ⟨cq121, kq121, q121a, q121b, q121c⟩ := isOf hZ e120 B0.1
    obtain ⟨_, _, ⟨T121, L121, k121, n121⟩, -, X121, ⟨Lc121, hQ121, l121, y121, z121⟩, st121⟩ := X120.virtualBack hx (y := (⟨"com/example/predicate/predicate/engine/FoldedTransactions", "seenWithin", "(J)Z"⟩ : MethodName)) (z := (⟨"com/example/predicate/predicate/engine/FoldedTransactions", "seenWithin", "(J)Z"⟩ : MethodName)) hown (mvT hZ (hw _ (List.mem_of_getElem? (i := 179) rfl))) (mvT hZ (hw _ (List.mem_of_getElem? (i := 180) rfl))) (notFace_of_selects (args := #[]) (mvT hZ (hw _ (List.mem_of_getElem? (i := 182) rfl)))) (mvT hZ (hw _ (List.mem_of_getElem? (i := 182) rfl))) (mvT hZ (hw _ (List.mem_of_getElem? (i := 181) rfl))) (by decide) (backOf (W := 0) (own_rmseen l Z aw hw [] a1 q1 la h0 n0 Z0 B0.2.2.2.2.1) hZ (hw _ (List.mem_of_getElem? (i := 183) rfl)) (hw _ (List.mem_of_getElem? (i := 34) rfl)) (by decide) (by decide)) q121a q121c (g := (mkF m 9 #[.val (.ref a1), .val (.long q1), .second] [(.long q1), (.ref a1)])) rfl (by rw [hml]; rfl) (Steps.refl _) (argsL := [(.long q1)]) (rest := []) (lenOf own_pd11 rfl) rfl (by show 2 * 0 + _ ≤ _; exact Nat.le_of_eq rfl) (hb hby own_d21_9) (fun _ _ => ⟨rfl, e120, (by decide : 0 + 0 ≤ _), (by decide : 0 + 0 ≤ _)⟩)
    dsimp only [Pt.U, Pt.locs, Pt.cells, Pt.slots] at X121 l121 y121 z121 st121 hQ121
    subst l121 y121 z121
    obtain ⟨rfl, N121q, e121⟩ := hQ121
    have N121 := Fr.app N120 N121q
    refine own_by (fun t k => st121.trans k) ?_
    show own_Go p.tables e below K (T121.setTop (mkF m 12 #[.val (.ref a1), .val (.long q1), .second] [(.int (own_seen la q1))]))
    by_cases hc12 : (own_seen la q1) = (0 : Int32)
    · refine own_by (fun t k => XS.ifYes X121.here hx rfl (pc0 := 12) (pc' := 43) rfl (hb hby own_d21_12) rfl ((if0 _ _).trans (teq hc12).1) (by decide) (by decide) k) ?_
      show own_Go p.tables e below K (T121.setTop (mkF m 43 #[.val (.ref a1), .val (.long q1), .second] []))
      have hfg : own_fgt la q1 = la := by unfold own_emp at hc4; unfold own_fgt; simp_all [own_seen]
      exact own_retV X121 hx hret (hb hby own_d21_43) (hK none X121 (fun _ => rfl) (by rw [e121]; exact ⟨rfl, N121, B0.1, by rw [hfg]; exact B0.2.2.2.2.1⟩) (by decide) (by decide))
    · refine own_by (fun t k => XS.ifNo X121.here hx rfl (hb hby own_d21_12) rfl ((if0 _ _).trans (feq hc12).1) k) ?_
      show own_Go p.tables e below K (T121.setTop (mkF m 15 #[.val (.ref a1), .val (.long q1), .second] []))
      refine own_by (fun t k => XS.aloadN X121.here hx rfl (hb hby own_d21_15) rfl rfl k) ?_
      show own_Go p.tables e below K (T121.setTop (mkF m 16 #[.val (.ref a1), .val (.long q1), .second] [(.ref a1)]))
      obtain ⟨T122, X122, e122, st122⟩ := getF X121 hx hZ hown (host := "") (Or.inl (hw _ (List.mem_of_getElem? (i := 55) rfl))) Via.refl e121 B0.2.1 (g := (mkF m 16 #[.val (.ref a1), .val (.long q1), .second] [(.ref a1)])) rfl rfl (hb hby own_d21_16)
      refine own_by st122 ?_
      show own_Go p.tables e below K (T122.setTop (mkF m 19 #[.val (.ref a1), .val (.long q1), .second] [(.ref hm)]))
      obtain ⟨cq123, kq123, q123a, q123b, q123c⟩ := isOf hZ e122 B0.2.2.2.2.2.1.1
      obtain ⟨_, _, ⟨T123, L123, k123, n123⟩, -, X123, ⟨Lc123, hQ123, l123, y123, z123⟩, st123⟩ := X122.interfaceBack hx (xi := (⟨"java/util/Map", "clear", "()V"⟩ : MethodName)) (y := (⟨"java/util/HashMap", "clear", "()V"⟩ : MethodName)) hown (mvT hZ (hw _ (List.mem_of_getElem? (i := 184) rfl))) (mvT hZ (hw _ (List.mem_of_getElem? (i := 185) rfl))) (mvT hZ (hw _ (List.mem_of_getElem? (i := 186) rfl))) (mvT hZ (hw _ (List.mem_of_getElem? (i := 187) rfl))) (mvT hZ (hw _ (List.mem_of_getElem? (i := 188) rfl))) (mvT hZ (hw _ (List.mem_of_getElem? (i := 189) rfl))) (mvT hZ (hw _ (List.mem_of_getElem? (i := 190) rfl))) (mvT hZ (hw _ (List.mem_of_getElem? (i := 191) rfl))) (by decide) (backOf (W := 0) (own_rmhmc l Z aw hw [] hm mc h0 n0 Z0 ⟨B0.2.2.2.2.2.1.1, B0.2.2.2.2.2.1.2.1, B0.2.2.2.2.2.1.2.2⟩ gh) hZ (hw _ (List.mem_of_getElem? (i := 192) rfl)) (hw _ (List.mem_of_getElem? (i := 41) rfl)) (by decide) (by decide)) q123a q123b q123c (g := (mkF m 19 #[.val (.ref a1), .val (.long q1), .second] [(.ref hm)])) rfl (by rw [hml]; rfl) (Steps.refl _) (argsL := []) (rest := []) (lenOf own_pd0 rfl) rfl (by show 2 * 0 + _ ≤ _; exact Nat.le_of_eq rfl) (hb hby own_d21_19) (fun _ _ => ⟨rfl, e122, (by decide : 0 + 0 ≤ _), (by decide : 0 + 0 ≤ _)⟩)
      dsimp only [Pt.U, Pt.locs, Pt.cells, Pt.slots] at X123 l123 y123 z123 st123 hQ123
      subst l123 y123 z123
      obtain ⟨rfl, N123q, Kp123, mc123, Bp123⟩ := hQ123
      have N123 := Fr.app N121 N123q
      refine own_by (fun t k => st123.trans k) ?_
      have xa123_el := B0.2.2.2.2.2.2.2.2.2.2.1.keep Kp123 (ninS (Ne.symm (own_Ar.ne B0.2.2.2.2.2.1.1 B0.2.2.2.2.2.2.2.2.2.2.1 (hw _ (List.mem_of_getElem? (i := 40) rfl)))) nin0)
      have F123_tables_a1 := B0.2.1.keep Kp123 (ninS (Exa.ne B0.1 B0.2.2.2.2.2.1.1 (by decide)) nin0)
      have F123_pivots_a1 := B0.2.2.1.keep Kp123 (ninS (Exa.ne B0.1 B0.2.2.2.2.2.1.1 (by decide)) nin0)
      have F123_pivotWrites_a1 := B0.2.2.2.1.keep Kp123 (ninS (Exa.ne B0.1 B0.2.2.2.2.2.1.1 (by decide)) nin0)
      have F123_last_a1 := B0.2.2.2.2.1.keep Kp123 (ninS (Exa.ne B0.1 B0.2.2.2.2.2.1.1 (by decide)) nin0)
      have F123_elements_dq := B0.2.2.2.2.2.2.2.1.keep Kp123 (ninS (Exa.ne B0.2.2.2.2.2.2.1 B0.2.2.2.2.2.1.1 (by decide)) nin0)
      have F123_head_dq := B0.2.2.2.2.2.2.2.2.1.keep Kp123 (ninS (Exa.ne B0.2.2.2.2.2.2.1 B0.2.2.2.2.2.1.1 (by decide)) nin0)
      have F123_tail_dq := B0.2.2.2.2.2.2.2.2.2.1.keep Kp123 (ninS (Exa.ne B0.2.2.2.2.2.2.1 B0.2.2.2.2.2.1.1 (by decide)) nin0)
      have Ex123_a1 := B0.1.keep Kp123
      have Ex123_hm := B0.2.2.2.2.2.1.1.keep Kp123
      have Ex123_dq := B0.2.2.2.2.2.2.1.keep Kp123
      have Z123 := Nat.le_trans Z0 Kp123.1
      show own_Go p.tables e below K (T123.setTop (mkF m 24 #[.val (.ref a1), .val (.long q1), .second] []))
      refine own_by (fun t k => XS.aloadN X123.here hx rfl (hb hby own_d21_24) rfl rfl k) ?_
      show own_Go p.tables e below K (T123.setTop (mkF m 25 #[.val (.ref a1), .val (.long q1), .second] [(.ref a1)]))
      obtain ⟨T124, X124, e124, st124⟩ := getF X123 hx hZ hown (host := "") (Or.inl (hw _ (List.mem_of_getElem? (i := 69) rfl))) Via.refl rfl F123_pivots_a1 (g := (mkF m 25 #[.val (.ref a1), .val (.long q1), .second] [(.ref a1)])) rfl rfl (hb hby own_d21_25)
      refine own_by st124 ?_
      show own_Go p.tables e below K (T124.setTop (mkF m 28 #[.val (.ref a1), .val (.long q1), .second] [(.ref dq)]))
      obtain ⟨cq125, kq125, q125a, q125b, q125c⟩ := isOf hZ e124 Ex123_dq
      obtain ⟨_, _, ⟨T125, L125, k125, n125⟩, -, X125, ⟨Lc125, hQ125, l125, y125, z125⟩, st125⟩ := own_faceBack X124 hx (xi := (⟨"java/util/Deque", "clear", "()V"⟩ : MethodName)) (y := (⟨"java/util/ArrayDeque", "clear", "()V"⟩ : MethodName)) (J := "java/util/Collection") hown (mvT hZ (hw _ (List.mem_of_getElem? (i := 197) rfl))) (mvT hZ (hw _ (List.mem_of_getElem? (i := 198) rfl))) (own_faceMv hZ (hw _ (List.mem_of_getElem? (i := 199) rfl))) (by decide) (mvT hZ (hw _ (List.mem_of_getElem? (i := 200) rfl))) (mvT hZ (hw _ (List.mem_of_getElem? (i := 201) rfl))) (mvT hZ (hw _ (List.mem_of_getElem? (i := 202) rfl))) (mvT hZ (hw _ (List.mem_of_getElem? (i := 203) rfl))) (mvT hZ (hw _ (List.mem_of_getElem? (i := 146) rfl))) (by decide) (by decide) (backOf (W := 0) (own_rmdqc1 l Z aw hw [] dq el k T123.heap n0 Z123 ⟨Ex123_dq, F123_elements_dq, F123_head_dq, F123_tail_dq, xa123_el, B0.2.2.2.2.2.2.2.2.2.2.2⟩ gd ge) hZ (hw _ (List.mem_of_getElem? (i := 204) rfl)) (hw _ (List.mem_of_getElem? (i := 59) rfl)) (by decide) (by decide)) q125a q125b q125c (g := (mkF m 28 #[.val (.ref a1), .val (.long q1), .second] [(.ref dq)])) rfl (by rw [hml]; rfl) (Steps.refl _) (argsL := []) (rest := []) (lenOf own_pd0 rfl) rfl (by show 2 * 0 + _ ≤ _; exact Nat.le_of_eq rfl) (hb hby own_d21_28) (fun _ _ => ⟨rfl, e124, (by decide : 0 + 0 ≤ _), (by decide : 0 + 0 ≤ _)⟩)
      dsimp only [Pt.U, Pt.locs, Pt.cells, Pt.slots] at X125 l125 y125 z125 st125 hQ125
      subst l125 y125 z125
      obtain ⟨rfl, N125q, Kp125, Bp125⟩ := hQ125
      have N125 := Fr.app N123 N125q
      refine own_by (fun t k => st125.trans k) ?_
      have F125_tables_a1 := F123_tables_a1.keep Kp125 (ninS (Exa.ne Ex123_a1 Ex123_dq (by decide)) (ninS (own_Ar.ne Ex123_a1 xa123_el (hw _ (List.mem_of_getElem? (i := 33) rfl))) nin0))
      have F125_pivots_a1 := F123_pivots_a1.keep Kp125 (ninS (Exa.ne Ex123_a1 Ex123_dq (by decide)) (ninS (own_Ar.ne Ex123_a1 xa123_el (hw _ (List.mem_of_getElem? (i := 33) rfl))) nin0))
      have F125_pivotWrites_a1 := F123_pivotWrites_a1.keep Kp125 (ninS (Exa.ne Ex123_a1 Ex123_dq (by decide)) (ninS (own_Ar.ne Ex123_a1 xa123_el (hw _ (List.mem_of_getElem? (i := 33) rfl))) nin0))
      have F125_last_a1 := F123_last_a1.keep Kp125 (ninS (Exa.ne Ex123_a1 Ex123_dq (by decide)) (ninS (own_Ar.ne Ex123_a1 xa123_el (hw _ (List.mem_of_getElem? (i := 33) rfl))) nin0))
      have F125_modCount_hm := Bp123.2.1.keep Kp125 (ninS (Exa.ne Bp123.1 Ex123_dq (by decide)) (ninS (own_Ar.ne Bp123.1 xa123_el (hw _ (List.mem_of_getElem? (i := 40) rfl))) nin0))
      have F125_table_hm := Bp123.2.2.keep Kp125 (ninS (Exa.ne Bp123.1 Ex123_dq (by decide)) (ninS (own_Ar.ne Bp123.1 xa123_el (hw _ (List.mem_of_getElem? (i := 40) rfl))) nin0))
      have Ex125_a1 := Ex123_a1.keep Kp125
      have Ex125_hm := Bp123.1.keep Kp125
      have Ex125_dq := Ex123_dq.keep Kp125
      have Z125 := Nat.le_trans Z123 Kp125.1
      show own_Go p.tables e below K (T125.setTop (mkF m 33 #[.val (.ref a1), .val (.long q1), .second] []))
      refine own_by (fun t k => XS.aloadN X125.here hx rfl (hb hby own_d21_33) rfl rfl k) ?_
      show own_Go p.tables e below K (T125.setTop (mkF m 34 #[.val (.ref a1), .val (.long q1), .second] [(.ref a1)]))
      refine own_by (fun t k => XS.lconst X125.here hx rfl (hb hby own_d21_34) k) ?_
      show own_Go p.tables e below K (T125.setTop (mkF m 35 #[.val (.ref a1), .val (.long q1), .second] [(.long (0 : Int64)), (.ref a1)]))
      obtain ⟨T126, h126, X126, e126, W126, st126⟩ := putF X125 hx hZ hown (host := "") (Or.inl (hw _ (List.mem_of_getElem? (i := 161) rfl))) Via.refl rfl F125_pivotWrites_a1 Ex125_a1 (Or.inl (hw _ (List.mem_of_getElem? (i := 162) rfl))) (hw _ (List.mem_of_getElem? (i := 33) rfl)) (ty := .long) (by decide) rfl rfl (g := (mkF m 35 #[.val (.ref a1), .val (.long q1), .second] [(.long (0 : Int64)), (.ref a1)])) rfl rfl (hb hby own_d21_35)
      refine own_by st126 ?_
      have F126_tables_a1 := F125_tables_a1.other W126 (Or.inr (slot_ne (Or.inr (hw _ (List.mem_of_getElem? (i := 56) rfl))) (Or.inl (hw _ (List.mem_of_getElem? (i := 162) rfl))) (by decide) (t := (.object "java/util/Map")) (t' := .long) (by decide) (by decide)))
      have F126_pivots_a1 := F125_pivots_a1.other W126 (Or.inr (slot_ne (Or.inr (hw _ (List.mem_of_getElem? (i := 70) rfl))) (Or.inl (hw _ (List.mem_of_getElem? (i := 162) rfl))) (by decide) (t := (.object "java/util/Deque")) (t' := .long) (by decide) (by decide)))
      have F126_pivotWrites_a1 := F125_pivotWrites_a1.same W126
      have F126_last_a1 := F125_last_a1.other W126 (Or.inr (slot_ne (Or.inl (hw _ (List.mem_of_getElem? (i := 77) rfl))) (Or.inl (hw _ (List.mem_of_getElem? (i := 162) rfl))) (by decide) (t := .long) (t' := .long) (by decide) (by decide)))
      have F126_modCount_hm := F125_modCount_hm.other W126 (Or.inl (Exa.ne Ex125_hm Ex125_a1 (by decide)))
      have F126_table_hm := F125_table_hm.other W126 (Or.inl (Exa.ne Ex125_hm Ex125_a1 (by decide)))
      have F126_elements_dq := Bp125.2.1.other W126 (Or.inl (Exa.ne Bp125.1 Ex125_a1 (by decide)))
      have F126_head_dq := Bp125.2.2.1.other W126 (Or.inl (Exa.ne Bp125.1 Ex125_a1 (by decide)))
      have F126_tail_dq := Bp125.2.2.2.1.other W126 (Or.inl (Exa.ne Bp125.1 Ex125_a1 (by decide)))
      have xa126_el := Bp125.2.2.2.2.1.other W126 (Ne.symm (own_Ar.ne Ex125_a1 Bp125.2.2.2.2.1 (hw _ (List.mem_of_getElem? (i := 33) rfl))))
      have Ex126_a1 := Ex125_a1.wr W126
      have Ex126_hm := Ex125_hm.wr W126
      have Ex126_dq := Bp125.1.wr W126
      have Z126 := Nat.le_trans Z125 (Keep.of_wr W126).1
      have N126 := Fr.snoc X126 N125 ga
      show own_Go p.tables e below K (T126.setTop (mkF m 38 #[.val (.ref a1), .val (.long q1), .second] []))
      refine own_by (fun t k => XS.aloadN X126.here hx rfl (hb hby own_d21_38) rfl rfl k) ?_
      show own_Go p.tables e below K (T126.setTop (mkF m 39 #[.val (.ref a1), .val (.long q1), .second] [(.ref a1)]))
      refine own_by (fun t k => XS.lconst X126.here hx rfl (hb hby own_d21_39) k) ?_
      show own_Go p.tables e below K (T126.setTop (mkF m 40 #[.val (.ref a1), .val (.long q1), .second] [(.long (0 : Int64)), (.ref a1)]))
      obtain ⟨T127, h127, X127, e127, W127, st127⟩ := putF X126 hx hZ hown (host := "") (Or.inl (hw _ (List.mem_of_getElem? (i := 76) rfl))) Via.refl e126 F126_last_a1 Ex126_a1 (Or.inl (hw _ (List.mem_of_getElem? (i := 77) rfl))) (hw _ (List.mem_of_getElem? (i := 33) rfl)) (ty := .long) (by decide) rfl rfl (g := (mkF m 40 #[.val (.ref a1), .val (.long q1), .second] [(.long (0 : Int64)), (.ref a1)])) rfl rfl (hb hby own_d21_40)
      refine own_by st127 ?_
      have F127_tables_a1 := F126_tables_a1.other W127 (Or.inr (slot_ne (Or.inr (hw _ (List.mem_of_getElem? (i := 56) rfl))) (Or.inl (hw _ (List.mem_of_getElem? (i := 77) rfl))) (by decide) (t := (.object "java/util/Map")) (t' := .long) (by decide) (by decide)))
      have F127_pivots_a1 := F126_pivots_a1.other W127 (Or.inr (slot_ne (Or.inr (hw _ (List.mem_of_getElem? (i := 70) rfl))) (Or.inl (hw _ (List.mem_of_getElem? (i := 77) rfl))) (by decide) (t := (.object "java/util/Deque")) (t' := .long) (by decide) (by decide)))
      have F127_pivotWrites_a1 := F126_pivotWrites_a1.other W127 (Or.inr (slot_ne (Or.inl (hw _ (List.mem_of_getElem? (i := 162) rfl))) (Or.inl (hw _ (List.mem_of_getElem? (i := 77) rfl))) (by decide) (t := .long) (t' := .long) (by decide) (by decide)))
      have F127_last_a1 := F126_last_a1.same W127
      have F127_modCount_hm := F126_modCount_hm.other W127 (Or.inl (Exa.ne Ex126_hm Ex126_a1 (by decide)))
      have F127_table_hm := F126_table_hm.other W127 (Or.inl (Exa.ne Ex126_hm Ex126_a1 (by decide)))
      have F127_elements_dq := F126_elements_dq.other W127 (Or.inl (Exa.ne Ex126_dq Ex126_a1 (by decide)))
      have F127_head_dq := F126_head_dq.other W127 (Or.inl (Exa.ne Ex126_dq Ex126_a1 (by decide)))
      have F127_tail_dq := F126_tail_dq.other W127 (Or.inl (Exa.ne Ex126_dq Ex126_a1 (by decide)))
      have xa127_el := xa126_el.other W127 (Ne.symm (own_Ar.ne Ex126_a1 xa126_el (hw _ (List.mem_of_getElem? (i := 33) rfl))))
      have Ex127_a1 := Ex126_a1.wr W127
      have Ex127_hm := Ex126_hm.wr W127
      have Ex127_dq := Ex126_dq.wr W127
      have Z127 := Nat.le_trans Z126 (Keep.of_wr W127).1
      have N127 := Fr.snoc X127 N126 ga
      show own_Go p.tables e below K (T127.setTop (mkF m 43 #[.val (.ref a1), .val (.long q1), .second] []))
      have hfg : own_fgt la q1 = (0 : Int64) := by unfold own_emp at hc4; unfold own_fgt; simp_all [own_seen]
      exact own_retV X127 hx hret (hb hby own_d21_43) (hK none X127 (fun _ => rfl) (by rw [e127]; exact ⟨rfl, N127, Ex127_a1, by rw [hfg]; exact F127_last_a1⟩) (by decide) (by decide))
  · refine own_by (fun t k => XS.ifYes X120.here hx rfl (pc0 := 4) (pc' := 43) rfl (hb hby own_d21_4) rfl ((if0 _ _).trans (feq hc4).2) (by decide) (by decide) k) ?_
    show own_Go p.tables e below K (T120.setTop (mkF m 43 #[.val (.ref a1), .val (.long q1), .second] []))
    have hfg : own_fgt la q1 = la := by unfold own_emp at hc4; unfold own_fgt; simp_all [own_seen]
    exact own_retV X120 hx hret (hb hby own_d21_43) (hK none X120 (fun _ => rfl) (by rw [e120]; exact ⟨rfl, N120, B0.1, by rw [hfg]; exact B0.2.2.2.2.1⟩) (by decide) (by decide))
theorem own_effgt2 (m : MethodId) (a1 : Addr) (q1 : Int64) : entryFrame m #[(.ref a1), (.long q1)] 3 = mkF m 0 #[.val (.ref a1), .val (.long q1), .second] [] := by first | (simp [entryFrame, mkF, argsToLocals, Value.category]; done) | rfl
def own_Qfgt2 (Z : State) (a1 : Addr) (q1 : Int64) (hm : Addr) (dq : Addr) (el : Addr) (k : ClassId) (mc : Int32) (la : Int64) (h0 : Heap) (n0 : Nat) (v : Option Value) (h : Heap) (L : List Loc) : Prop := v = none ∧ Fr n0 L ∧ Exa Z h a1 "com/example/predicate/predicate/engine/FoldedTransactions" ∧ Fld Z h a1 "com/example/predicate/predicate/engine/FoldedTransactions" "last" "J" (.long (own_fgt la q1))
set_option maxRecDepth 65536 in
set_option maxHeartbeats 40000000 in
theorem own_rmfgt2 (l : Launch) (Z : State) (aw : Array Value) (hw : ∀ d ∈ tables_1, d.before aw Z = true) (ws : List Jvm.Cond) (a1 : Addr) (q1 : Int64) (hm : Addr) (dq : Addr) (el : Addr) (k : ClassId) (mc : Int32) (la : Int64) (h0 : Heap) (n0 : Nat) (Z0 : n0 ≤ h0.size) (B0 : own_FT Z h0 a1 hm dq el k mc (2 : Int32) la) (ga : n0 ≤ a1) (gh : n0 ≤ hm) (gd : n0 ≤ dq) (ge : n0 ≤ el) :
    MetFree l (⟨"com/example/predicate/predicate/engine/FoldedTransactions", "forgetSeenWithin", "(J)V"⟩ : MethodName) (head1 (Jvm.Cond.code (⟨"com/example/predicate/predicate/engine/FoldedTransactions", "forgetSeenWithin", "(J)V"⟩ : MethodName) prog_49_method_6_code 3 none :: ws) ({ frames := 2, cells := 0, slots := 0, locals := 60 } : Room)) (fun a U => a = #[(.ref a1), (.long q1)] ∧ Z.Warmed39 U.vm ∧ U.heap = h0) (fun _ _ _ _ _ => True) (fun _ U o U' => ∃ v L, o = .returned v ∧ own_Qfgt2 Z a1 q1 hm dq el k mc la h0 n0 v U'.heap L ∧ FrameEnd U o U' L ({ frames := 2, cells := 0, slots := 0, locals := 60 } : Room).cells ({ frames := 2, cells := 0, slots := 0, locals := 60 } : Room).slots) := by
  refine own_met (Q := own_Qfgt2 Z a1 q1 hm dq el k mc la h0 n0) (plainFor_of_name own_pn6) ?_
  intro p e s m below meth c s₁ K hx hby hml hown hnm hret hZ X0 e0 hK
  have hown : s.vm.findClass "com/example/predicate/predicate/engine/FoldedTransactions" = some m.cls := hown
  have N0 := Fr.nil n0
  refine own_by (fun t k => castTop (own_effgt2 m a1 q1) k) ?_
  show own_Go p.tables e below K (s₁.setTop (mkF m 0 #[.val (.ref a1), .val (.long q1), .second] []))
  refine own_by (fun t k => XS.aloadN X0.here hx rfl (hb hby own_d21_0) rfl rfl k) ?_
  show own_Go p.tables e below K (s₁.setTop (mkF m 1 #[.val (.ref a1), .val (.long q1), .second] [(.ref a1)]))
  obtain ⟨cq128, kq128, q128a, q128b, q128c⟩ := isOf hZ e0 B0.1
  obtain ⟨_, _, ⟨T128, L128, k128, n128⟩, -, X128, ⟨Lc128, hQ128, l128, y128, z128⟩, st128⟩ := X0.virtualBack hx (y := (⟨"com/example/predicate/predicate/engine/FoldedTransactions", "isEmpty", "()Z"⟩ : MethodName)) (z := (⟨"com/example/predicate/predicate/engine/FoldedTransactions", "isEmpty", "()Z"⟩ : MethodName)) hown (mvT hZ (hw _ (List.mem_of_getElem? (i := 178) rfl))) (mvT hZ (hw _ (List.mem_of_getElem? (i := 72) rfl))) (notFace_of_selects (args := #[]) (mvT hZ (hw _ (List.mem_of_getElem? (i := 74) rfl)))) (mvT hZ (hw _ (List.mem_of_getElem? (i := 74) rfl))) (mvT hZ (hw _ (List.mem_of_getElem? (i := 73) rfl))) (by decide) (backOf (W := 0) (own_rmemp l Z aw hw [] a1 la h0 n0 Z0 B0.2.2.2.2.1) hZ (hw _ (List.mem_of_getElem? (i := 75) rfl)) (hw _ (List.mem_of_getElem? (i := 34) rfl)) (by decide) (by decide)) q128a q128c (g := (mkF m 1 #[.val (.ref a1), .val (.long q1), .second] [(.ref a1)])) rfl (by rw [hml]; rfl) (Steps.refl _) (argsL := []) (rest := []) (lenOf own_pd5 rfl) rfl (by show 2 * 0 + _ ≤ _; exact Nat.le_of_eq rfl) (hb hby own_d21_1) (fun _ _ => ⟨rfl, e0, (by decide : 0 + 0 ≤ _), (by decide : 0 + 0 ≤ _)⟩)
  dsimp only [Pt.U, Pt.locs, Pt.cells, Pt.slots] at X128 l128 y128 z128 st128 hQ128
  subst l128 y128 z128
  obtain ⟨rfl, N128q, e128⟩ := hQ128
  have N128 := Fr.app N0 N128q
  refine own_by (fun t k => st128.trans k) ?_
  show own_Go p.tables e below K (T128.setTop (mkF m 4 #[.val (.ref a1), .val (.long q1), .second] [(.int (own_emp la))]))
  by_cases hc4 : (own_emp la) = (0 : Int32)
  · refine own_by (fun t k => XS.ifNo X128.here hx rfl (hb hby own_d21_4) rfl ((if0 _ _).trans (teq hc4).2) k) ?_
    show own_Go p.tables e below K (T128.setTop (mkF m 7 #[.val (.ref a1), .val (.long q1), .second] []))
    refine own_by (fun t k => XS.aloadN X128.here hx rfl (hb hby own_d21_7) rfl rfl k) ?_
    show own_Go p.tables e below K (T128.setTop (mkF m 8 #[.val (.ref a1), .val (.long q1), .second] [(.ref a1)]))
    refine own_by (fun t k => XS.lloadN X128.here hx rfl (hb hby own_d21_8) rfl k) ?_
    show own_Go p.tables e below K (T128.setTop (mkF m 9 #[.val (.ref a1), .val (.long q1), .second] [(.long q1), (.ref a1)]))
    obtain ⟨cq129, kq129, q129a, q129b, q129c⟩ := isOf hZ e128 B0.1
    obtain ⟨_, _, ⟨T129, L129, k129, n129⟩, -, X129, ⟨Lc129, hQ129, l129, y129, z129⟩, st129⟩ := X128.virtualBack hx (y := (⟨"com/example/predicate/predicate/engine/FoldedTransactions", "seenWithin", "(J)Z"⟩ : MethodName)) (z := (⟨"com/example/predicate/predicate/engine/FoldedTransactions", "seenWithin", "(J)Z"⟩ : MethodName)) hown (mvT hZ (hw _ (List.mem_of_getElem? (i := 179) rfl))) (mvT hZ (hw _ (List.mem_of_getElem? (i := 180) rfl))) (notFace_of_selects (args := #[]) (mvT hZ (hw _ (List.mem_of_getElem? (i := 182) rfl)))) (mvT hZ (hw _ (List.mem_of_getElem? (i := 182) rfl))) (mvT hZ (hw _ (List.mem_of_getElem? (i := 181) rfl))) (by decide) (backOf (W := 0) (own_rmseen l Z aw hw [] a1 q1 la h0 n0 Z0 B0.2.2.2.2.1) hZ (hw _ (List.mem_of_getElem? (i := 183) rfl)) (hw _ (List.mem_of_getElem? (i := 34) rfl)) (by decide) (by decide)) q129a q129c (g := (mkF m 9 #[.val (.ref a1), .val (.long q1), .second] [(.long q1), (.ref a1)])) rfl (by rw [hml]; rfl) (Steps.refl _) (argsL := [(.long q1)]) (rest := []) (lenOf own_pd11 rfl) rfl (by show 2 * 0 + _ ≤ _; exact Nat.le_of_eq rfl) (hb hby own_d21_9) (fun _ _ => ⟨rfl, e128, (by decide : 0 + 0 ≤ _), (by decide : 0 + 0 ≤ _)⟩)
    dsimp only [Pt.U, Pt.locs, Pt.cells, Pt.slots] at X129 l129 y129 z129 st129 hQ129
    subst l129 y129 z129
    obtain ⟨rfl, N129q, e129⟩ := hQ129
    have N129 := Fr.app N128 N129q
    refine own_by (fun t k => st129.trans k) ?_
    show own_Go p.tables e below K (T129.setTop (mkF m 12 #[.val (.ref a1), .val (.long q1), .second] [(.int (own_seen la q1))]))
    by_cases hc12 : (own_seen la q1) = (0 : Int32)
    · refine own_by (fun t k => XS.ifYes X129.here hx rfl (pc0 := 12) (pc' := 43) rfl (hb hby own_d21_12) rfl ((if0 _ _).trans (teq hc12).1) (by decide) (by decide) k) ?_
      show own_Go p.tables e below K (T129.setTop (mkF m 43 #[.val (.ref a1), .val (.long q1), .second] []))
      have hfg : own_fgt la q1 = la := by unfold own_emp at hc4; unfold own_fgt; simp_all [own_seen]
      exact own_retV X129 hx hret (hb hby own_d21_43) (hK none X129 (fun _ => rfl) (by rw [e129]; exact ⟨rfl, N129, B0.1, by rw [hfg]; exact B0.2.2.2.2.1⟩) (by decide) (by decide))
    · refine own_by (fun t k => XS.ifNo X129.here hx rfl (hb hby own_d21_12) rfl ((if0 _ _).trans (feq hc12).1) k) ?_
      show own_Go p.tables e below K (T129.setTop (mkF m 15 #[.val (.ref a1), .val (.long q1), .second] []))
      refine own_by (fun t k => XS.aloadN X129.here hx rfl (hb hby own_d21_15) rfl rfl k) ?_
      show own_Go p.tables e below K (T129.setTop (mkF m 16 #[.val (.ref a1), .val (.long q1), .second] [(.ref a1)]))
      obtain ⟨T130, X130, e130, st130⟩ := getF X129 hx hZ hown (host := "") (Or.inl (hw _ (List.mem_of_getElem? (i := 55) rfl))) Via.refl e129 B0.2.1 (g := (mkF m 16 #[.val (.ref a1), .val (.long q1), .second] [(.ref a1)])) rfl rfl (hb hby own_d21_16)
      refine own_by st130 ?_
      show own_Go p.tables e below K (T130.setTop (mkF m 19 #[.val (.ref a1), .val (.long q1), .second] [(.ref hm)]))
      obtain ⟨cq131, kq131, q131a, q131b, q131c⟩ := isOf hZ e130 B0.2.2.2.2.2.1.1
      obtain ⟨_, _, ⟨T131, L131, k131, n131⟩, -, X131, ⟨Lc131, hQ131, l131, y131, z131⟩, st131⟩ := X130.interfaceBack hx (xi := (⟨"java/util/Map", "clear", "()V"⟩ : MethodName)) (y := (⟨"java/util/HashMap", "clear", "()V"⟩ : MethodName)) hown (mvT hZ (hw _ (List.mem_of_getElem? (i := 184) rfl))) (mvT hZ (hw _ (List.mem_of_getElem? (i := 185) rfl))) (mvT hZ (hw _ (List.mem_of_getElem? (i := 186) rfl))) (mvT hZ (hw _ (List.mem_of_getElem? (i := 187) rfl))) (mvT hZ (hw _ (List.mem_of_getElem? (i := 188) rfl))) (mvT hZ (hw _ (List.mem_of_getElem? (i := 189) rfl))) (mvT hZ (hw _ (List.mem_of_getElem? (i := 190) rfl))) (mvT hZ (hw _ (List.mem_of_getElem? (i := 191) rfl))) (by decide) (backOf (W := 0) (own_rmhmc l Z aw hw [] hm mc h0 n0 Z0 ⟨B0.2.2.2.2.2.1.1, B0.2.2.2.2.2.1.2.1, B0.2.2.2.2.2.1.2.2⟩ gh) hZ (hw _ (List.mem_of_getElem? (i := 192) rfl)) (hw _ (List.mem_of_getElem? (i := 41) rfl)) (by decide) (by decide)) q131a q131b q131c (g := (mkF m 19 #[.val (.ref a1), .val (.long q1), .second] [(.ref hm)])) rfl (by rw [hml]; rfl) (Steps.refl _) (argsL := []) (rest := []) (lenOf own_pd0 rfl) rfl (by show 2 * 0 + _ ≤ _; exact Nat.le_of_eq rfl) (hb hby own_d21_19) (fun _ _ => ⟨rfl, e130, (by decide : 0 + 0 ≤ _), (by decide : 0 + 0 ≤ _)⟩)
      dsimp only [Pt.U, Pt.locs, Pt.cells, Pt.slots] at X131 l131 y131 z131 st131 hQ131
      subst l131 y131 z131
      obtain ⟨rfl, N131q, Kp131, mc131, Bp131⟩ := hQ131
      have N131 := Fr.app N129 N131q
      refine own_by (fun t k => st131.trans k) ?_
      have xa131_el := B0.2.2.2.2.2.2.2.2.2.2.1.keep Kp131 (ninS (Ne.symm (own_Ar.ne B0.2.2.2.2.2.1.1 B0.2.2.2.2.2.2.2.2.2.2.1 (hw _ (List.mem_of_getElem? (i := 40) rfl)))) nin0)
      have F131_tables_a1 := B0.2.1.keep Kp131 (ninS (Exa.ne B0.1 B0.2.2.2.2.2.1.1 (by decide)) nin0)
      have F131_pivots_a1 := B0.2.2.1.keep Kp131 (ninS (Exa.ne B0.1 B0.2.2.2.2.2.1.1 (by decide)) nin0)
      have F131_pivotWrites_a1 := B0.2.2.2.1.keep Kp131 (ninS (Exa.ne B0.1 B0.2.2.2.2.2.1.1 (by decide)) nin0)
      have F131_last_a1 := B0.2.2.2.2.1.keep Kp131 (ninS (Exa.ne B0.1 B0.2.2.2.2.2.1.1 (by decide)) nin0)
      have F131_elements_dq := B0.2.2.2.2.2.2.2.1.keep Kp131 (ninS (Exa.ne B0.2.2.2.2.2.2.1 B0.2.2.2.2.2.1.1 (by decide)) nin0)
      have F131_head_dq := B0.2.2.2.2.2.2.2.2.1.keep Kp131 (ninS (Exa.ne B0.2.2.2.2.2.2.1 B0.2.2.2.2.2.1.1 (by decide)) nin0)
      have F131_tail_dq := B0.2.2.2.2.2.2.2.2.2.1.keep Kp131 (ninS (Exa.ne B0.2.2.2.2.2.2.1 B0.2.2.2.2.2.1.1 (by decide)) nin0)
      have Ex131_a1 := B0.1.keep Kp131
      have Ex131_hm := B0.2.2.2.2.2.1.1.keep Kp131
      have Ex131_dq := B0.2.2.2.2.2.2.1.keep Kp131
      have Z131 := Nat.le_trans Z0 Kp131.1
      show own_Go p.tables e below K (T131.setTop (mkF m 24 #[.val (.ref a1), .val (.long q1), .second] []))
      refine own_by (fun t k => XS.aloadN X131.here hx rfl (hb hby own_d21_24) rfl rfl k) ?_
      show own_Go p.tables e below K (T131.setTop (mkF m 25 #[.val (.ref a1), .val (.long q1), .second] [(.ref a1)]))
      obtain ⟨T132, X132, e132, st132⟩ := getF X131 hx hZ hown (host := "") (Or.inl (hw _ (List.mem_of_getElem? (i := 69) rfl))) Via.refl rfl F131_pivots_a1 (g := (mkF m 25 #[.val (.ref a1), .val (.long q1), .second] [(.ref a1)])) rfl rfl (hb hby own_d21_25)
      refine own_by st132 ?_
      show own_Go p.tables e below K (T132.setTop (mkF m 28 #[.val (.ref a1), .val (.long q1), .second] [(.ref dq)]))
      obtain ⟨cq133, kq133, q133a, q133b, q133c⟩ := isOf hZ e132 Ex131_dq
      obtain ⟨_, _, ⟨T133, L133, k133, n133⟩, -, X133, ⟨Lc133, hQ133, l133, y133, z133⟩, st133⟩ := own_faceBack X132 hx (xi := (⟨"java/util/Deque", "clear", "()V"⟩ : MethodName)) (y := (⟨"java/util/ArrayDeque", "clear", "()V"⟩ : MethodName)) (J := "java/util/Collection") hown (mvT hZ (hw _ (List.mem_of_getElem? (i := 197) rfl))) (mvT hZ (hw _ (List.mem_of_getElem? (i := 198) rfl))) (own_faceMv hZ (hw _ (List.mem_of_getElem? (i := 199) rfl))) (by decide) (mvT hZ (hw _ (List.mem_of_getElem? (i := 200) rfl))) (mvT hZ (hw _ (List.mem_of_getElem? (i := 201) rfl))) (mvT hZ (hw _ (List.mem_of_getElem? (i := 202) rfl))) (mvT hZ (hw _ (List.mem_of_getElem? (i := 203) rfl))) (mvT hZ (hw _ (List.mem_of_getElem? (i := 146) rfl))) (by decide) (by decide) (backOf (W := 0) (own_rmdqc2 l Z aw hw [] dq el k T131.heap n0 Z131 ⟨Ex131_dq, F131_elements_dq, F131_head_dq, F131_tail_dq, xa131_el, B0.2.2.2.2.2.2.2.2.2.2.2⟩ gd ge) hZ (hw _ (List.mem_of_getElem? (i := 204) rfl)) (hw _ (List.mem_of_getElem? (i := 59) rfl)) (by decide) (by decide)) q133a q133b q133c (g := (mkF m 28 #[.val (.ref a1), .val (.long q1), .second] [(.ref dq)])) rfl (by rw [hml]; rfl) (Steps.refl _) (argsL := []) (rest := []) (lenOf own_pd0 rfl) rfl (by show 2 * 0 + _ ≤ _; exact Nat.le_of_eq rfl) (hb hby own_d21_28) (fun _ _ => ⟨rfl, e132, (by decide : 0 + 0 ≤ _), (by decide : 0 + 0 ≤ _)⟩)
      dsimp only [Pt.U, Pt.locs, Pt.cells, Pt.slots] at X133 l133 y133 z133 st133 hQ133
      subst l133 y133 z133
      obtain ⟨rfl, N133q, Kp133, Bp133⟩ := hQ133
      have N133 := Fr.app N131 N133q
      refine own_by (fun t k => st133.trans k) ?_
      have F133_tables_a1 := F131_tables_a1.keep Kp133 (ninS (Exa.ne Ex131_a1 Ex131_dq (by decide)) (ninS (own_Ar.ne Ex131_a1 xa131_el (hw _ (List.mem_of_getElem? (i := 33) rfl))) nin0))
      have F133_pivots_a1 := F131_pivots_a1.keep Kp133 (ninS (Exa.ne Ex131_a1 Ex131_dq (by decide)) (ninS (own_Ar.ne Ex131_a1 xa131_el (hw _ (List.mem_of_getElem? (i := 33) rfl))) nin0))
      have F133_pivotWrites_a1 := F131_pivotWrites_a1.keep Kp133 (ninS (Exa.ne Ex131_a1 Ex131_dq (by decide)) (ninS (own_Ar.ne Ex131_a1 xa131_el (hw _ (List.mem_of_getElem? (i := 33) rfl))) nin0))
      have F133_last_a1 := F131_last_a1.keep Kp133 (ninS (Exa.ne Ex131_a1 Ex131_dq (by decide)) (ninS (own_Ar.ne Ex131_a1 xa131_el (hw _ (List.mem_of_getElem? (i := 33) rfl))) nin0))
      have F133_modCount_hm := Bp131.2.1.keep Kp133 (ninS (Exa.ne Bp131.1 Ex131_dq (by decide)) (ninS (own_Ar.ne Bp131.1 xa131_el (hw _ (List.mem_of_getElem? (i := 40) rfl))) nin0))
      have F133_table_hm := Bp131.2.2.keep Kp133 (ninS (Exa.ne Bp131.1 Ex131_dq (by decide)) (ninS (own_Ar.ne Bp131.1 xa131_el (hw _ (List.mem_of_getElem? (i := 40) rfl))) nin0))
      have Ex133_a1 := Ex131_a1.keep Kp133
      have Ex133_hm := Bp131.1.keep Kp133
      have Ex133_dq := Ex131_dq.keep Kp133
      have Z133 := Nat.le_trans Z131 Kp133.1
      show own_Go p.tables e below K (T133.setTop (mkF m 33 #[.val (.ref a1), .val (.long q1), .second] []))
      refine own_by (fun t k => XS.aloadN X133.here hx rfl (hb hby own_d21_33) rfl rfl k) ?_
      show own_Go p.tables e below K (T133.setTop (mkF m 34 #[.val (.ref a1), .val (.long q1), .second] [(.ref a1)]))
      refine own_by (fun t k => XS.lconst X133.here hx rfl (hb hby own_d21_34) k) ?_
      show own_Go p.tables e below K (T133.setTop (mkF m 35 #[.val (.ref a1), .val (.long q1), .second] [(.long (0 : Int64)), (.ref a1)]))
      obtain ⟨T134, h134, X134, e134, W134, st134⟩ := putF X133 hx hZ hown (host := "") (Or.inl (hw _ (List.mem_of_getElem? (i := 161) rfl))) Via.refl rfl F133_pivotWrites_a1 Ex133_a1 (Or.inl (hw _ (List.mem_of_getElem? (i := 162) rfl))) (hw _ (List.mem_of_getElem? (i := 33) rfl)) (ty := .long) (by decide) rfl rfl (g := (mkF m 35 #[.val (.ref a1), .val (.long q1), .second] [(.long (0 : Int64)), (.ref a1)])) rfl rfl (hb hby own_d21_35)
      refine own_by st134 ?_
      have F134_tables_a1 := F133_tables_a1.other W134 (Or.inr (slot_ne (Or.inr (hw _ (List.mem_of_getElem? (i := 56) rfl))) (Or.inl (hw _ (List.mem_of_getElem? (i := 162) rfl))) (by decide) (t := (.object "java/util/Map")) (t' := .long) (by decide) (by decide)))
      have F134_pivots_a1 := F133_pivots_a1.other W134 (Or.inr (slot_ne (Or.inr (hw _ (List.mem_of_getElem? (i := 70) rfl))) (Or.inl (hw _ (List.mem_of_getElem? (i := 162) rfl))) (by decide) (t := (.object "java/util/Deque")) (t' := .long) (by decide) (by decide)))
      have F134_pivotWrites_a1 := F133_pivotWrites_a1.same W134
      have F134_last_a1 := F133_last_a1.other W134 (Or.inr (slot_ne (Or.inl (hw _ (List.mem_of_getElem? (i := 77) rfl))) (Or.inl (hw _ (List.mem_of_getElem? (i := 162) rfl))) (by decide) (t := .long) (t' := .long) (by decide) (by decide)))
      have F134_modCount_hm := F133_modCount_hm.other W134 (Or.inl (Exa.ne Ex133_hm Ex133_a1 (by decide)))
      have F134_table_hm := F133_table_hm.other W134 (Or.inl (Exa.ne Ex133_hm Ex133_a1 (by decide)))
      have F134_elements_dq := Bp133.2.1.other W134 (Or.inl (Exa.ne Bp133.1 Ex133_a1 (by decide)))
      have F134_head_dq := Bp133.2.2.1.other W134 (Or.inl (Exa.ne Bp133.1 Ex133_a1 (by decide)))
      have F134_tail_dq := Bp133.2.2.2.1.other W134 (Or.inl (Exa.ne Bp133.1 Ex133_a1 (by decide)))
      have xa134_el := Bp133.2.2.2.2.1.other W134 (Ne.symm (own_Ar.ne Ex133_a1 Bp133.2.2.2.2.1 (hw _ (List.mem_of_getElem? (i := 33) rfl))))
      have Ex134_a1 := Ex133_a1.wr W134
      have Ex134_hm := Ex133_hm.wr W134
      have Ex134_dq := Bp133.1.wr W134
      have Z134 := Nat.le_trans Z133 (Keep.of_wr W134).1
      have N134 := Fr.snoc X134 N133 ga
      show own_Go p.tables e below K (T134.setTop (mkF m 38 #[.val (.ref a1), .val (.long q1), .second] []))
      refine own_by (fun t k => XS.aloadN X134.here hx rfl (hb hby own_d21_38) rfl rfl k) ?_
      show own_Go p.tables e below K (T134.setTop (mkF m 39 #[.val (.ref a1), .val (.long q1), .second] [(.ref a1)]))
      refine own_by (fun t k => XS.lconst X134.here hx rfl (hb hby own_d21_39) k) ?_
      show own_Go p.tables e below K (T134.setTop (mkF m 40 #[.val (.ref a1), .val (.long q1), .second] [(.long (0 : Int64)), (.ref a1)]))
      obtain ⟨T135, h135, X135, e135, W135, st135⟩ := putF X134 hx hZ hown (host := "") (Or.inl (hw _ (List.mem_of_getElem? (i := 76) rfl))) Via.refl e134 F134_last_a1 Ex134_a1 (Or.inl (hw _ (List.mem_of_getElem? (i := 77) rfl))) (hw _ (List.mem_of_getElem? (i := 33) rfl)) (ty := .long) (by decide) rfl rfl (g := (mkF m 40 #[.val (.ref a1), .val (.long q1), .second] [(.long (0 : Int64)), (.ref a1)])) rfl rfl (hb hby own_d21_40)
      refine own_by st135 ?_
      have F135_tables_a1 := F134_tables_a1.other W135 (Or.inr (slot_ne (Or.inr (hw _ (List.mem_of_getElem? (i := 56) rfl))) (Or.inl (hw _ (List.mem_of_getElem? (i := 77) rfl))) (by decide) (t := (.object "java/util/Map")) (t' := .long) (by decide) (by decide)))
      have F135_pivots_a1 := F134_pivots_a1.other W135 (Or.inr (slot_ne (Or.inr (hw _ (List.mem_of_getElem? (i := 70) rfl))) (Or.inl (hw _ (List.mem_of_getElem? (i := 77) rfl))) (by decide) (t := (.object "java/util/Deque")) (t' := .long) (by decide) (by decide)))
      have F135_pivotWrites_a1 := F134_pivotWrites_a1.other W135 (Or.inr (slot_ne (Or.inl (hw _ (List.mem_of_getElem? (i := 162) rfl))) (Or.inl (hw _ (List.mem_of_getElem? (i := 77) rfl))) (by decide) (t := .long) (t' := .long) (by decide) (by decide)))
      have F135_last_a1 := F134_last_a1.same W135
      have F135_modCount_hm := F134_modCount_hm.other W135 (Or.inl (Exa.ne Ex134_hm Ex134_a1 (by decide)))
      have F135_table_hm := F134_table_hm.other W135 (Or.inl (Exa.ne Ex134_hm Ex134_a1 (by decide)))
      have F135_elements_dq := F134_elements_dq.other W135 (Or.inl (Exa.ne Ex134_dq Ex134_a1 (by decide)))
      have F135_head_dq := F134_head_dq.other W135 (Or.inl (Exa.ne Ex134_dq Ex134_a1 (by decide)))
      have F135_tail_dq := F134_tail_dq.other W135 (Or.inl (Exa.ne Ex134_dq Ex134_a1 (by decide)))
      have xa135_el := xa134_el.other W135 (Ne.symm (own_Ar.ne Ex134_a1 xa134_el (hw _ (List.mem_of_getElem? (i := 33) rfl))))
      have Ex135_a1 := Ex134_a1.wr W135
      have Ex135_hm := Ex134_hm.wr W135
      have Ex135_dq := Ex134_dq.wr W135
      have Z135 := Nat.le_trans Z134 (Keep.of_wr W135).1
      have N135 := Fr.snoc X135 N134 ga
      show own_Go p.tables e below K (T135.setTop (mkF m 43 #[.val (.ref a1), .val (.long q1), .second] []))
      have hfg : own_fgt la q1 = (0 : Int64) := by unfold own_emp at hc4; unfold own_fgt; simp_all [own_seen]
      exact own_retV X135 hx hret (hb hby own_d21_43) (hK none X135 (fun _ => rfl) (by rw [e135]; exact ⟨rfl, N135, Ex135_a1, by rw [hfg]; exact F135_last_a1⟩) (by decide) (by decide))
  · refine own_by (fun t k => XS.ifYes X128.here hx rfl (pc0 := 4) (pc' := 43) rfl (hb hby own_d21_4) rfl ((if0 _ _).trans (feq hc4).2) (by decide) (by decide) k) ?_
    show own_Go p.tables e below K (T128.setTop (mkF m 43 #[.val (.ref a1), .val (.long q1), .second] []))
    have hfg : own_fgt la q1 = la := by unfold own_emp at hc4; unfold own_fgt; simp_all [own_seen]
    exact own_retV X128 hx hret (hb hby own_d21_43) (hK none X128 (fun _ => rfl) (by rw [e128]; exact ⟨rfl, N128, B0.1, by rw [hfg]; exact B0.2.2.2.2.1⟩) (by decide) (by decide))
theorem own_mxpos (x : Int64) : 0 < own_mx 1 x := by
  unfold own_mx
  split
  · rename_i h
    rw [Int64.lt_iff_toInt_lt] at h ⊢
    have e1 : (1 : Int64).toInt = 1 := rfl
    have e0 : (0 : Int64).toInt = 0 := rfl
    omega
  · decide
theorem own_mx0 {a : Int64} (h : 0 < a) : own_mx 0 a = a := if_pos h
theorem own_mxp {a b : Int64} (h : 0 < a) : 0 < own_mx a b := by
  unfold own_mx
  split
  · rename_i q
    rw [Int64.lt_iff_toInt_lt] at h q ⊢
    omega
  · exact h
theorem own_ne0 {a : Int64} (h : 0 < a) : ¬ a = 0 := fun e => by subst e; exact absurd h (by decide)
theorem own_emp0 : own_emp 0 = 1 := by simp [own_emp]
theorem own_empp {a : Int64} (h : 0 < a) : own_emp a = 0 := by simp [own_emp, own_ne0 h]
theorem own_fgt0 (q : Int64) : own_fgt 0 q = 0 := by simp [own_fgt]
theorem own_e2 {a q : Int64} (h : 0 < a) : own_emp (own_fgt a q) = if q < a then 0 else 1 := by
  by_cases hq : q < a <;> simp [own_fgt, own_emp, own_ne0 h, hq]
theorem own_012 {x : Int32} (h : own_is x 2) : x = 0 ∨ x = 1 ∨ x = 2 := by
  obtain ⟨i, hi, rfl⟩ := h
  have : ∀ k : Fin 3, Int32.ofNat k.val = 0 ∨ Int32.ofNat k.val = 1 ∨ Int32.ofNat k.val = 2 := by decide
  exact this ⟨i, by omega⟩
theorem own_pd12 : parseMethodDescriptor "(J)V" = some ⟨[.long], none⟩ := by decide +kernel
theorem own_pd13 : parseMethodDescriptor "(Ljava/util/List;Ljava/util/List;JJJ)V" = some ⟨[(.object "java/util/List"), (.object "java/util/List"), .long, .long, .long], none⟩ := by decide +kernel
theorem own_pn0 : plainName "com/example/predicate/predicate/engine/FoldedTransactionsIsEmptyPinLaw" = true := by first | (simp [plainName, overriddenIn]; done) | decide +kernel
theorem own_ef0 (m : MethodId) (c1 : Int64) (c2 : Int64) (hz : Int64) (bd : Int64) (po : Int64) (fl : Int32) : entryFrame m #[(.long c1), (.long c2), (.long hz), (.long bd), (.long po), (.int fl)] maxLocals = mkF m 0 #[.val (.long c1), .second, .val (.long c2), .second, .val (.long hz), .second, .val (.long bd), .second, .val (.long po), .second, .val (.int fl), .unset, .unset, .unset, .unset, .unset, .unset, .unset, .unset, .unset, .unset, .unset, .unset, .unset] [] := by first | (simp [entryFrame, mkF, argsToLocals, Value.category, maxLocals]; done) | rfl
def own_Q0 (Z : State) (c1 : Int64) (c2 : Int64) (hz : Int64) (bd : Int64) (po : Int64) (fl : Int32) (dd : Addr) (h0 : Heap) (n0 : Nat) (v : Option Value) (h : Heap) (L : List Loc) : Prop := v = some (.int (1 : Int32)) ∧ Fr n0 L
set_option maxRecDepth 65536 in
set_option maxHeartbeats 40000000 in
theorem own_rm0 (l : Launch) (Z : State) (aw : Array Value) (hw : ∀ d ∈ tables_1, d.before aw Z = true) (ws : List Jvm.Cond) (c1 : Int64) (c2 : Int64) (hz : Int64) (bd : Int64) (po : Int64) (fl : Int32) (dd : Addr) (h0 : Heap) (n0 : Nat) (Z0 : n0 ≤ h0.size) (O0 : Old Z n0 h0) (S0 : Sta Z Z.heap "java/util/ArrayList" "DEFAULTCAPACITY_EMPTY_ELEMENTDATA" "[Ljava/lang/Object;" (.ref dd)) :
    MetFree l x (head1 (Jvm.Cond.code x code maxLocals ret :: ws) room_1) (fun a U => a = #[(.long c1), (.long c2), (.long hz), (.long bd), (.long po), (.int fl)] ∧ Z.Warmed39 U.vm ∧ U.heap = h0) (fun _ _ _ _ _ => True) (fun _ U o U' => ∃ v L, o = .returned v ∧ own_Q0 Z c1 c2 hz bd po fl dd h0 n0 v U'.heap L ∧ FrameEnd U o U' L 12 58) := by
  refine own_met (Q := own_Q0 Z c1 c2 hz bd po fl dd h0 n0) (plainFor_of_name own_pn0) ?_
  intro p e s m below meth c s₁ K hx hby hml hown hnm hret hZ X0 e0 hK
  have hown : s.vm.findClass "com/example/predicate/predicate/engine/FoldedTransactionsIsEmptyPinLaw" = some m.cls := hown
  have N0 := Fr.nil n0
  refine own_by (fun t k => castTop (own_ef0 m c1 c2 hz bd po fl) k) ?_
  show own_Go p.tables e below K (s₁.setTop (mkF m 0 #[.val (.long c1), .second, .val (.long c2), .second, .val (.long hz), .second, .val (.long bd), .second, .val (.long po), .second, .val (.int fl), .unset, .unset, .unset, .unset, .unset, .unset, .unset, .unset, .unset, .unset, .unset, .unset, .unset] []))
  refine own_by (fun t k => XS.lconst X0.here hx rfl (hb hby at_0) k) ?_
  show own_Go p.tables e below K (s₁.setTop (mkF m 1 #[.val (.long c1), .second, .val (.long c2), .second, .val (.long hz), .second, .val (.long bd), .second, .val (.long po), .second, .val (.int fl), .unset, .unset, .unset, .unset, .unset, .unset, .unset, .unset, .unset, .unset, .unset, .unset, .unset] [(.long (1 : Int64))]))
  refine own_by (fun t k => XS.lloadN X0.here hx rfl (hb hby at_1) rfl k) ?_
  show own_Go p.tables e below K (s₁.setTop (mkF m 2 #[.val (.long c1), .second, .val (.long c2), .second, .val (.long hz), .second, .val (.long bd), .second, .val (.long po), .second, .val (.int fl), .unset, .unset, .unset, .unset, .unset, .unset, .unset, .unset, .unset, .unset, .unset, .unset, .unset] [(.long c1), (.long (1 : Int64))]))
  refine own_by (fun t k => X0.ldc2Long hx hown (mvT hZ (hw _ (List.mem_of_getElem? (i := 0) rfl))) (g := (mkF m 2 #[.val (.long c1), .second, .val (.long c2), .second, .val (.long hz), .second, .val (.long bd), .second, .val (.long po), .second, .val (.int fl), .unset, .unset, .unset, .unset, .unset, .unset, .unset, .unset, .unset, .unset, .unset, .unset, .unset] [(.long c1), (.long (1 : Int64))])) rfl (hb hby at_2) _ k) ?_
  show own_Go p.tables e below K (s₁.setTop (mkF m 5 #[.val (.long c1), .second, .val (.long c2), .second, .val (.long hz), .second, .val (.long bd), .second, .val (.long po), .second, .val (.int fl), .unset, .unset, .unset, .unset, .unset, .unset, .unset, .unset, .unset, .unset, .unset, .unset, .unset] [(.long (9223372036854775807 : Int64)), (.long c1), (.long (1 : Int64))]))
  refine own_by (fun t k => XS.land X0.here hx rfl (hb hby at_5) rfl k) ?_
  show own_Go p.tables e below K (s₁.setTop (mkF m 6 #[.val (.long c1), .second, .val (.long c2), .second, .val (.long hz), .second, .val (.long bd), .second, .val (.long po), .second, .val (.int fl), .unset, .unset, .unset, .unset, .unset, .unset, .unset, .unset, .unset, .unset, .unset, .unset, .unset] [(.long (c1 &&& (9223372036854775807 : Int64))), (.long (1 : Int64))]))
  obtain ⟨_, _, ⟨T136, L136, k136, n136⟩, -, X136, ⟨Lc136, hQ136, l136, y136, z136⟩, st136⟩ := Jvm.LawKit.callS X0 hx (y := (⟨"java/lang/Math", "max", "(JJ)J"⟩ : MethodName)) hown (mvT hZ (hw _ (List.mem_of_getElem? (i := 1) rfl))) (mvT hZ (hw _ (List.mem_of_getElem? (i := 2) rfl))) (mvT hZ (hw _ (List.mem_of_getElem? (i := 3) rfl))) (mvT hZ (hw _ (List.mem_of_getElem? (i := 4) rfl))) (by decide) (backOf (W := 0) (own_rmmx l Z aw hw [] 1 (c1 &&& (9223372036854775807 : Int64)) h0 n0 Z0) hZ (hw _ (List.mem_of_getElem? (i := 4) rfl)) (hw _ (List.mem_of_getElem? (i := 3) rfl)) (by decide) (by decide)) (g := (mkF m 6 #[.val (.long c1), .second, .val (.long c2), .second, .val (.long hz), .second, .val (.long bd), .second, .val (.long po), .second, .val (.int fl), .unset, .unset, .unset, .unset, .unset, .unset, .unset, .unset, .unset, .unset, .unset, .unset, .unset] [(.long (c1 &&& (9223372036854775807 : Int64))), (.long (1 : Int64))])) rfl (by rw [hml]; rfl) (argsL := [(.long (1 : Int64)), (.long (c1 &&& (9223372036854775807 : Int64)))]) (rest := []) (lenOf own_pd6 rfl) rfl (by show 2 * 0 + _ ≤ _; exact Nat.le_of_eq rfl) (hb hby at_6) (fun _ _ => ⟨rfl, e0, (by decide : 0 + 0 ≤ _), (by decide : 0 + 0 ≤ _)⟩)
  dsimp only [Pt.U, Pt.locs, Pt.cells, Pt.slots] at X136 l136 y136 z136 st136 hQ136
  subst l136 y136 z136
  obtain ⟨rfl, N136q, e136⟩ := hQ136
  have N136 := Fr.app N0 N136q
  refine own_by st136 ?_
  have hpa := own_mxpos (c1 &&& (9223372036854775807 : Int64))
  generalize own_mx 1 (c1 &&& (9223372036854775807 : Int64)) = aa at hpa ⊢
  show own_Go p.tables e below K (T136.setTop (mkF m 9 #[.val (.long c1), .second, .val (.long c2), .second, .val (.long hz), .second, .val (.long bd), .second, .val (.long po), .second, .val (.int fl), .unset, .unset, .unset, .unset, .unset, .unset, .unset, .unset, .unset, .unset, .unset, .unset, .unset] [(.long aa)]))
  refine own_by (fun t k => XS.lstore X136.here hx rfl (hb hby at_9) rfl (l' := #[.val (.long c1), .second, .val (.long c2), .second, .val (.long hz), .second, .val (.long bd), .second, .val (.long po), .second, .val (.int fl), .val (.long aa), .second, .unset, .unset, .unset, .unset, .unset, .unset, .unset, .unset, .unset, .unset, .unset]) rfl k) ?_
  show own_Go p.tables e below K (T136.setTop (mkF m 11 #[.val (.long c1), .second, .val (.long c2), .second, .val (.long hz), .second, .val (.long bd), .second, .val (.long po), .second, .val (.int fl), .val (.long aa), .second, .unset, .unset, .unset, .unset, .unset, .unset, .unset, .unset, .unset, .unset, .unset] []))
  refine own_by (fun t k => XS.lconst X136.here hx rfl (hb hby at_11) k) ?_
  show own_Go p.tables e below K (T136.setTop (mkF m 12 #[.val (.long c1), .second, .val (.long c2), .second, .val (.long hz), .second, .val (.long bd), .second, .val (.long po), .second, .val (.int fl), .val (.long aa), .second, .unset, .unset, .unset, .unset, .unset, .unset, .unset, .unset, .unset, .unset, .unset] [(.long (1 : Int64))]))
  refine own_by (fun t k => XS.lloadN X136.here hx rfl (hb hby at_12) rfl k) ?_
  show own_Go p.tables e below K (T136.setTop (mkF m 13 #[.val (.long c1), .second, .val (.long c2), .second, .val (.long hz), .second, .val (.long bd), .second, .val (.long po), .second, .val (.int fl), .val (.long aa), .second, .unset, .unset, .unset, .unset, .unset, .unset, .unset, .unset, .unset, .unset, .unset] [(.long c2), (.long (1 : Int64))]))
  refine own_by (fun t k => X136.ldc2Long hx hown (mvT hZ (hw _ (List.mem_of_getElem? (i := 0) rfl))) (g := (mkF m 13 #[.val (.long c1), .second, .val (.long c2), .second, .val (.long hz), .second, .val (.long bd), .second, .val (.long po), .second, .val (.int fl), .val (.long aa), .second, .unset, .unset, .unset, .unset, .unset, .unset, .unset, .unset, .unset, .unset, .unset] [(.long c2), (.long (1 : Int64))])) rfl (hb hby at_13) _ k) ?_
  show own_Go p.tables e below K (T136.setTop (mkF m 16 #[.val (.long c1), .second, .val (.long c2), .second, .val (.long hz), .second, .val (.long bd), .second, .val (.long po), .second, .val (.int fl), .val (.long aa), .second, .unset, .unset, .unset, .unset, .unset, .unset, .unset, .unset, .unset, .unset, .unset] [(.long (9223372036854775807 : Int64)), (.long c2), (.long (1 : Int64))]))
  refine own_by (fun t k => XS.land X136.here hx rfl (hb hby at_16) rfl k) ?_
  show own_Go p.tables e below K (T136.setTop (mkF m 17 #[.val (.long c1), .second, .val (.long c2), .second, .val (.long hz), .second, .val (.long bd), .second, .val (.long po), .second, .val (.int fl), .val (.long aa), .second, .unset, .unset, .unset, .unset, .unset, .unset, .unset, .unset, .unset, .unset, .unset] [(.long (c2 &&& (9223372036854775807 : Int64))), (.long (1 : Int64))]))
  obtain ⟨_, _, ⟨T137, L137, k137, n137⟩, -, X137, ⟨Lc137, hQ137, l137, y137, z137⟩, st137⟩ := Jvm.LawKit.callS X136 hx (y := (⟨"java/lang/Math", "max", "(JJ)J"⟩ : MethodName)) hown (mvT hZ (hw _ (List.mem_of_getElem? (i := 1) rfl))) (mvT hZ (hw _ (List.mem_of_getElem? (i := 2) rfl))) (mvT hZ (hw _ (List.mem_of_getElem? (i := 3) rfl))) (mvT hZ (hw _ (List.mem_of_getElem? (i := 4) rfl))) (by decide) (backOf (W := 0) (own_rmmx l Z aw hw [] 1 (c2 &&& (9223372036854775807 : Int64)) h0 n0 Z0) hZ (hw _ (List.mem_of_getElem? (i := 4) rfl)) (hw _ (List.mem_of_getElem? (i := 3) rfl)) (by decide) (by decide)) (g := (mkF m 17 #[.val (.long c1), .second, .val (.long c2), .second, .val (.long hz), .second, .val (.long bd), .second, .val (.long po), .second, .val (.int fl), .val (.long aa), .second, .unset, .unset, .unset, .unset, .unset, .unset, .unset, .unset, .unset, .unset, .unset] [(.long (c2 &&& (9223372036854775807 : Int64))), (.long (1 : Int64))])) rfl (by rw [hml]; rfl) (argsL := [(.long (1 : Int64)), (.long (c2 &&& (9223372036854775807 : Int64)))]) (rest := []) (lenOf own_pd6 rfl) rfl (by show 2 * 0 + _ ≤ _; exact Nat.le_of_eq rfl) (hb hby at_17) (fun _ _ => ⟨rfl, e136, (by decide : 0 + 0 ≤ _), (by decide : 0 + 0 ≤ _)⟩)
  dsimp only [Pt.U, Pt.locs, Pt.cells, Pt.slots] at X137 l137 y137 z137 st137 hQ137
  subst l137 y137 z137
  obtain ⟨rfl, N137q, e137⟩ := hQ137
  have N137 := Fr.app N136 N137q
  refine own_by st137 ?_
  have hpb := own_mxpos (c2 &&& (9223372036854775807 : Int64))
  generalize own_mx 1 (c2 &&& (9223372036854775807 : Int64)) = bb at hpb ⊢
  show own_Go p.tables e below K (T137.setTop (mkF m 20 #[.val (.long c1), .second, .val (.long c2), .second, .val (.long hz), .second, .val (.long bd), .second, .val (.long po), .second, .val (.int fl), .val (.long aa), .second, .unset, .unset, .unset, .unset, .unset, .unset, .unset, .unset, .unset, .unset, .unset] [(.long bb)]))
  refine own_by (fun t k => XS.lstore X137.here hx rfl (hb hby at_20) rfl (l' := #[.val (.long c1), .second, .val (.long c2), .second, .val (.long hz), .second, .val (.long bd), .second, .val (.long po), .second, .val (.int fl), .val (.long aa), .second, .val (.long bb), .second, .unset, .unset, .unset, .unset, .unset, .unset, .unset, .unset, .unset]) rfl k) ?_
  show own_Go p.tables e below K (T137.setTop (mkF m 22 #[.val (.long c1), .second, .val (.long c2), .second, .val (.long hz), .second, .val (.long bd), .second, .val (.long po), .second, .val (.int fl), .val (.long aa), .second, .val (.long bb), .second, .unset, .unset, .unset, .unset, .unset, .unset, .unset, .unset, .unset] []))
  refine own_by (fun t k => XS.iload X137.here hx rfl (hb hby at_22) rfl k) ?_
  show own_Go p.tables e below K (T137.setTop (mkF m 24 #[.val (.long c1), .second, .val (.long c2), .second, .val (.long hz), .second, .val (.long bd), .second, .val (.long po), .second, .val (.int fl), .val (.long aa), .second, .val (.long bb), .second, .unset, .unset, .unset, .unset, .unset, .unset, .unset, .unset, .unset] [(.int fl)]))
  refine own_by (fun t k => X137.ldcInt hx hown (mvT hZ (hw _ (List.mem_of_getElem? (i := 5) rfl))) (g := (mkF m 24 #[.val (.long c1), .second, .val (.long c2), .second, .val (.long hz), .second, .val (.long bd), .second, .val (.long po), .second, .val (.int fl), .val (.long aa), .second, .val (.long bb), .second, .unset, .unset, .unset, .unset, .unset, .unset, .unset, .unset, .unset] [(.int fl)])) rfl (hb hby at_24) _ k) ?_
  show own_Go p.tables e below K (T137.setTop (mkF m 26 #[.val (.long c1), .second, .val (.long c2), .second, .val (.long hz), .second, .val (.long bd), .second, .val (.long po), .second, .val (.int fl), .val (.long aa), .second, .val (.long bb), .second, .unset, .unset, .unset, .unset, .unset, .unset, .unset, .unset, .unset] [(.int (2147483647 : Int32)), (.int fl)]))
  refine own_by (fun t k => XS.iand X137.here hx rfl (hb hby at_26) rfl k) ?_
  show own_Go p.tables e below K (T137.setTop (mkF m 27 #[.val (.long c1), .second, .val (.long c2), .second, .val (.long hz), .second, .val (.long bd), .second, .val (.long po), .second, .val (.int fl), .val (.long aa), .second, .val (.long bb), .second, .unset, .unset, .unset, .unset, .unset, .unset, .unset, .unset, .unset] [(.int (fl &&& (2147483647 : Int32)))]))
  refine own_by (fun t k => XS.iconst X137.here hx rfl (hb hby at_27) k) ?_
  show own_Go p.tables e below K (T137.setTop (mkF m 28 #[.val (.long c1), .second, .val (.long c2), .second, .val (.long hz), .second, .val (.long bd), .second, .val (.long po), .second, .val (.int fl), .val (.long aa), .second, .val (.long bb), .second, .unset, .unset, .unset, .unset, .unset, .unset, .unset, .unset, .unset] [(.int (3 : Int32)), (.int (fl &&& (2147483647 : Int32)))]))
  refine own_by (fun t k => iremM X137 hx rfl (hb hby at_28) rfl (by decide) k) ?_
  show own_Go p.tables e below K (T137.setTop (mkF m 29 #[.val (.long c1), .second, .val (.long c2), .second, .val (.long hz), .second, .val (.long bd), .second, .val (.long po), .second, .val (.int fl), .val (.long aa), .second, .val (.long bb), .second, .unset, .unset, .unset, .unset, .unset, .unset, .unset, .unset, .unset] [(.int ((fl &&& (2147483647 : Int32)) % (3 : Int32)))]))
  refine own_by (fun t k => XS.istore X137.here hx rfl (hb hby at_29) rfl (l' := #[.val (.long c1), .second, .val (.long c2), .second, .val (.long hz), .second, .val (.long bd), .second, .val (.long po), .second, .val (.int fl), .val (.long aa), .second, .val (.long bb), .second, .val (.int ((fl &&& (2147483647 : Int32)) % (3 : Int32))), .unset, .unset, .unset, .unset, .unset, .unset, .unset, .unset]) rfl k) ?_
  have J31 : ∀ nn : Int32, (nn = 0 ∨ nn = 1 ∨ nn = 2) → own_Go p.tables e below K (T137.setTop (mkF m 31 #[.val (.long c1), .second, .val (.long c2), .second, .val (.long hz), .second, .val (.long bd), .second, .val (.long po), .second, .val (.int fl), .val (.long aa), .second, .val (.long bb), .second, .val (.int nn), .unset, .unset, .unset, .unset, .unset, .unset, .unset, .unset] [])) := by
    intro nn hnn
    rcases hnn with rfl | rfl | rfl
    · show own_Go p.tables e below K (T137.setTop (mkF m 31 #[.val (.long c1), .second, .val (.long c2), .second, .val (.long hz), .second, .val (.long bd), .second, .val (.long po), .second, .val (.int fl), .val (.long aa), .second, .val (.long bb), .second, .val (.int (0 : Int32)), .unset, .unset, .unset, .unset, .unset, .unset, .unset, .unset] []))
      obtain ⟨T138, h138, X138, e138, E138, A138, D138, -, st138⟩ := newO X137 hx hZ hown (hw _ (List.mem_of_getElem? (i := 6) rfl)) (hw _ (List.mem_of_getElem? (i := 7) rfl)) (hw _ (List.mem_of_getElem? (i := 8) rfl)) e137 (g := (mkF m 31 #[.val (.long c1), .second, .val (.long c2), .second, .val (.long hz), .second, .val (.long bd), .second, .val (.long po), .second, .val (.int fl), .val (.long aa), .second, .val (.long bb), .second, .val (.int (0 : Int32)), .unset, .unset, .unset, .unset, .unset, .unset, .unset, .unset] [])) rfl (hb hby at_31) (by decide) (by decide)
      obtain ⟨b138, g138⟩ : ∃ z, z = h0.size := ⟨_, rfl⟩
      rw [← g138] at A138 D138 st138
      refine own_by st138 ?_
      have gn_b138 : n0 ≤ b138 := Nat.le_trans Z0 (Nat.le_of_eq g138.symm)
      have Z138 := Nat.le_trans Z0 E138.1
      have O138 := O0.ext E138
      have F138_modCount_b138 : Fld Z h138 b138 "java/util/AbstractList" "modCount" "I" (.int (0 : Int32)) := D138 (Or.inl (hw _ (List.mem_of_getElem? (i := 28) rfl))) (ty := .int) (by decide)
      have F138_elementData_b138 : Fld Z h138 b138 "java/util/ArrayList" "elementData" "[Ljava/lang/Object;" .null := D138 (Or.inl (hw _ (List.mem_of_getElem? (i := 31) rfl))) (ty := (.array (.object "java/lang/Object"))) (by decide)
      have F138_size_b138 : Fld Z h138 b138 "java/util/ArrayList" "size" "I" (.int (0 : Int32)) := D138 (Or.inl (hw _ (List.mem_of_getElem? (i := 120) rfl))) (ty := .int) (by decide)
      show own_Go p.tables e below K (T138.setTop (mkF m 34 #[.val (.long c1), .second, .val (.long c2), .second, .val (.long hz), .second, .val (.long bd), .second, .val (.long po), .second, .val (.int fl), .val (.long aa), .second, .val (.long bb), .second, .val (.int (0 : Int32)), .unset, .unset, .unset, .unset, .unset, .unset, .unset, .unset] [(.ref b138)]))
      refine own_by (fun t k => XS.dup X138.here hx rfl (hb hby at_34) rfl rfl k) ?_
      show own_Go p.tables e below K (T138.setTop (mkF m 35 #[.val (.long c1), .second, .val (.long c2), .second, .val (.long hz), .second, .val (.long bd), .second, .val (.long po), .second, .val (.int fl), .val (.long aa), .second, .val (.long bb), .second, .val (.int (0 : Int32)), .unset, .unset, .unset, .unset, .unset, .unset, .unset, .unset] [(.ref b138), (.ref b138)]))
      obtain ⟨_, _, ⟨T139, L139, k139, n139⟩, -, X139, ⟨Lc139, hQ139, l139, y139, z139⟩, st139⟩ := X138.specialBack hx (y := (⟨"java/util/ArrayList", "<init>", "()V"⟩ : MethodName)) rfl hown (mvT hZ (hw _ (List.mem_of_getElem? (i := 9) rfl))) (mvT hZ (hw _ (List.mem_of_getElem? (i := 10) rfl))) (mvT hZ (hw _ (List.mem_of_getElem? (i := 11) rfl))) (by decide) (backOf (W := 1) (own_rmaln l Z aw hw [] b138 dd h138 n0 Z138 A138 gn_b138 F138_modCount_b138 F138_elementData_b138 F138_size_b138 O138 S0) hZ (hw _ (List.mem_of_getElem? (i := 11) rfl)) (hw _ (List.mem_of_getElem? (i := 8) rfl)) (by decide) (by decide)) (g := (mkF m 35 #[.val (.long c1), .second, .val (.long c2), .second, .val (.long hz), .second, .val (.long bd), .second, .val (.long po), .second, .val (.int fl), .val (.long aa), .second, .val (.long bb), .second, .val (.int (0 : Int32)), .unset, .unset, .unset, .unset, .unset, .unset, .unset, .unset] [(.ref b138), (.ref b138)])) rfl (by rw [hml]; rfl) (Steps.refl _) (a := b138) (argsL := []) (rest := [(.ref b138)]) (lenOf own_pd0 rfl) rfl (by show 2 * 0 + _ ≤ _; exact Nat.le_of_eq rfl) (hb hby at_35) (fun _ _ => ⟨rfl, e138, (by decide : 1 + 0 ≤ _), (by decide : 3 + 0 ≤ _)⟩)
      dsimp only [Pt.U, Pt.locs, Pt.cells, Pt.slots] at X139 l139 y139 z139 st139 hQ139
      subst l139 y139 z139
      obtain ⟨rfl, N139q, Kp139, Bp139⟩ := hQ139
      have N139 := Fr.app N137 N139q
      refine own_by (fun t k => st139.trans k) ?_
      have Ex139_b138 := A138.keep Kp139
      have Z139 := Nat.le_trans Z138 Kp139.1
      have O139 := O138.keep Kp139 (allS gn_b138 (all0))
      show own_Go p.tables e below K (T139.setTop (mkF m 38 #[.val (.long c1), .second, .val (.long c2), .second, .val (.long hz), .second, .val (.long bd), .second, .val (.long po), .second, .val (.int fl), .val (.long aa), .second, .val (.long bb), .second, .val (.int (0 : Int32)), .unset, .unset, .unset, .unset, .unset, .unset, .unset, .unset] [(.ref b138)]))
      refine own_by (fun t k => XS.astore X139.here hx rfl (hb hby at_38) rfl rfl (l' := #[.val (.long c1), .second, .val (.long c2), .second, .val (.long hz), .second, .val (.long bd), .second, .val (.long po), .second, .val (.int fl), .val (.long aa), .second, .val (.long bb), .second, .val (.int (0 : Int32)), .val (.ref b138), .unset, .unset, .unset, .unset, .unset, .unset, .unset]) rfl k) ?_
      show own_Go p.tables e below K (T139.setTop (mkF m 40 #[.val (.long c1), .second, .val (.long c2), .second, .val (.long hz), .second, .val (.long bd), .second, .val (.long po), .second, .val (.int fl), .val (.long aa), .second, .val (.long bb), .second, .val (.int (0 : Int32)), .val (.ref b138), .unset, .unset, .unset, .unset, .unset, .unset, .unset] []))
      obtain ⟨T140, h140, X140, e140, E140, A140, D140, -, st140⟩ := newO X139 hx hZ hown (hw _ (List.mem_of_getElem? (i := 6) rfl)) (hw _ (List.mem_of_getElem? (i := 7) rfl)) (hw _ (List.mem_of_getElem? (i := 8) rfl)) rfl (g := (mkF m 40 #[.val (.long c1), .second, .val (.long c2), .second, .val (.long hz), .second, .val (.long bd), .second, .val (.long po), .second, .val (.int fl), .val (.long aa), .second, .val (.long bb), .second, .val (.int (0 : Int32)), .val (.ref b138), .unset, .unset, .unset, .unset, .unset, .unset, .unset] [])) rfl (hb hby at_40) (by decide) (by decide)
      obtain ⟨b140, g140⟩ : ∃ z, z = T139.heap.size := ⟨_, rfl⟩
      rw [← g140] at A140 D140 st140
      refine own_by st140 ?_
      have gn_b140 : n0 ≤ b140 := Nat.le_trans Z139 (Nat.le_of_eq g140.symm)
      have ne_b138_b140 : b138 ≠ b140 := Nat.ne_of_lt (Nat.lt_of_lt_of_le Bp139.1.lt (Nat.le_of_eq g140.symm))
      have F140_modCount_b138 := Bp139.2.1.ext E140
      have F140_size_b138 := Bp139.2.2.ext E140
      have Ex140_b138 := Bp139.1.ext E140
      have Z140 := Nat.le_trans Z139 E140.1
      have O140 := O139.ext E140
      have F140_modCount_b140 : Fld Z h140 b140 "java/util/AbstractList" "modCount" "I" (.int (0 : Int32)) := D140 (Or.inl (hw _ (List.mem_of_getElem? (i := 28) rfl))) (ty := .int) (by decide)
      have F140_elementData_b140 : Fld Z h140 b140 "java/util/ArrayList" "elementData" "[Ljava/lang/Object;" .null := D140 (Or.inl (hw _ (List.mem_of_getElem? (i := 31) rfl))) (ty := (.array (.object "java/lang/Object"))) (by decide)
      have F140_size_b140 : Fld Z h140 b140 "java/util/ArrayList" "size" "I" (.int (0 : Int32)) := D140 (Or.inl (hw _ (List.mem_of_getElem? (i := 120) rfl))) (ty := .int) (by decide)
      show own_Go p.tables e below K (T140.setTop (mkF m 43 #[.val (.long c1), .second, .val (.long c2), .second, .val (.long hz), .second, .val (.long bd), .second, .val (.long po), .second, .val (.int fl), .val (.long aa), .second, .val (.long bb), .second, .val (.int (0 : Int32)), .val (.ref b138), .unset, .unset, .unset, .unset, .unset, .unset, .unset] [(.ref b140)]))
      refine own_by (fun t k => XS.dup X140.here hx rfl (hb hby at_43) rfl rfl k) ?_
      show own_Go p.tables e below K (T140.setTop (mkF m 44 #[.val (.long c1), .second, .val (.long c2), .second, .val (.long hz), .second, .val (.long bd), .second, .val (.long po), .second, .val (.int fl), .val (.long aa), .second, .val (.long bb), .second, .val (.int (0 : Int32)), .val (.ref b138), .unset, .unset, .unset, .unset, .unset, .unset, .unset] [(.ref b140), (.ref b140)]))
      obtain ⟨_, _, ⟨T141, L141, k141, n141⟩, -, X141, ⟨Lc141, hQ141, l141, y141, z141⟩, st141⟩ := X140.specialBack hx (y := (⟨"java/util/ArrayList", "<init>", "()V"⟩ : MethodName)) rfl hown (mvT hZ (hw _ (List.mem_of_getElem? (i := 9) rfl))) (mvT hZ (hw _ (List.mem_of_getElem? (i := 10) rfl))) (mvT hZ (hw _ (List.mem_of_getElem? (i := 11) rfl))) (by decide) (backOf (W := 1) (own_rmaln l Z aw hw [] b140 dd h140 n0 Z140 A140 gn_b140 F140_modCount_b140 F140_elementData_b140 F140_size_b140 O140 S0) hZ (hw _ (List.mem_of_getElem? (i := 11) rfl)) (hw _ (List.mem_of_getElem? (i := 8) rfl)) (by decide) (by decide)) (g := (mkF m 44 #[.val (.long c1), .second, .val (.long c2), .second, .val (.long hz), .second, .val (.long bd), .second, .val (.long po), .second, .val (.int fl), .val (.long aa), .second, .val (.long bb), .second, .val (.int (0 : Int32)), .val (.ref b138), .unset, .unset, .unset, .unset, .unset, .unset, .unset] [(.ref b140), (.ref b140)])) rfl (by rw [hml]; rfl) (Steps.refl _) (a := b140) (argsL := []) (rest := [(.ref b140)]) (lenOf own_pd0 rfl) rfl (by show 2 * 0 + _ ≤ _; exact Nat.le_of_eq rfl) (hb hby at_44) (fun _ _ => ⟨rfl, e140, (by decide : 2 + 0 ≤ _), (by decide : 6 + 0 ≤ _)⟩)
      dsimp only [Pt.U, Pt.locs, Pt.cells, Pt.slots] at X141 l141 y141 z141 st141 hQ141
      subst l141 y141 z141
      obtain ⟨rfl, N141q, Kp141, Bp141⟩ := hQ141
      have N141 := Fr.app N139 N141q
      refine own_by (fun t k => st141.trans k) ?_
      have F141_modCount_b138 := F140_modCount_b138.keep Kp141 (ninS ne_b138_b140 nin0)
      have F141_size_b138 := F140_size_b138.keep Kp141 (ninS ne_b138_b140 nin0)
      have Ex141_b138 := Ex140_b138.keep Kp141
      have Ex141_b140 := A140.keep Kp141
      have Z141 := Nat.le_trans Z140 Kp141.1
      have O141 := O140.keep Kp141 (allS gn_b140 (all0))
      show own_Go p.tables e below K (T141.setTop (mkF m 47 #[.val (.long c1), .second, .val (.long c2), .second, .val (.long hz), .second, .val (.long bd), .second, .val (.long po), .second, .val (.int fl), .val (.long aa), .second, .val (.long bb), .second, .val (.int (0 : Int32)), .val (.ref b138), .unset, .unset, .unset, .unset, .unset, .unset, .unset] [(.ref b140)]))
      refine own_by (fun t k => XS.astore X141.here hx rfl (hb hby at_47) rfl rfl (l' := #[.val (.long c1), .second, .val (.long c2), .second, .val (.long hz), .second, .val (.long bd), .second, .val (.long po), .second, .val (.int fl), .val (.long aa), .second, .val (.long bb), .second, .val (.int (0 : Int32)), .val (.ref b138), .val (.ref b140), .unset, .unset, .unset, .unset, .unset, .unset]) rfl k) ?_
      show own_Go p.tables e below K (T141.setTop (mkF m 49 #[.val (.long c1), .second, .val (.long c2), .second, .val (.long hz), .second, .val (.long bd), .second, .val (.long po), .second, .val (.int fl), .val (.long aa), .second, .val (.long bb), .second, .val (.int (0 : Int32)), .val (.ref b138), .val (.ref b140), .unset, .unset, .unset, .unset, .unset, .unset] []))
      obtain ⟨T142, h142, X142, e142, E142, A142, D142, -, st142⟩ := newO X141 hx hZ hown (hw _ (List.mem_of_getElem? (i := 32) rfl)) (hw _ (List.mem_of_getElem? (i := 33) rfl)) (hw _ (List.mem_of_getElem? (i := 34) rfl)) rfl (g := (mkF m 49 #[.val (.long c1), .second, .val (.long c2), .second, .val (.long hz), .second, .val (.long bd), .second, .val (.long po), .second, .val (.int fl), .val (.long aa), .second, .val (.long bb), .second, .val (.int (0 : Int32)), .val (.ref b138), .val (.ref b140), .unset, .unset, .unset, .unset, .unset, .unset] [])) rfl (hb hby at_49) (by decide) (by decide)
      obtain ⟨b142, g142⟩ : ∃ z, z = T141.heap.size := ⟨_, rfl⟩
      rw [← g142] at A142 D142 st142
      refine own_by st142 ?_
      have gn_b142 : n0 ≤ b142 := Nat.le_trans Z141 (Nat.le_of_eq g142.symm)
      have ne_b138_b142 : b138 ≠ b142 := Nat.ne_of_lt (Nat.lt_of_lt_of_le Ex141_b138.lt (Nat.le_of_eq g142.symm))
      have ne_b140_b142 : b140 ≠ b142 := Nat.ne_of_lt (Nat.lt_of_lt_of_le Bp141.1.lt (Nat.le_of_eq g142.symm))
      have F142_modCount_b138 := F141_modCount_b138.ext E142
      have F142_size_b138 := F141_size_b138.ext E142
      have F142_modCount_b140 := Bp141.2.1.ext E142
      have F142_size_b140 := Bp141.2.2.ext E142
      have Ex142_b138 := Ex141_b138.ext E142
      have Ex142_b140 := Bp141.1.ext E142
      have Z142 := Nat.le_trans Z141 E142.1
      have O142 := O141.ext E142
      have F142_tables_b142 : Fld Z h142 b142 "com/example/predicate/predicate/engine/FoldedTransactions" "tables" "Ljava/util/Map;" .null := D142 (Or.inr (hw _ (List.mem_of_getElem? (i := 56) rfl))) (ty := (.object "java/util/Map")) (by decide)
      have F142_pivots_b142 : Fld Z h142 b142 "com/example/predicate/predicate/engine/FoldedTransactions" "pivots" "Ljava/util/Deque;" .null := D142 (Or.inr (hw _ (List.mem_of_getElem? (i := 70) rfl))) (ty := (.object "java/util/Deque")) (by decide)
      have F142_last_b142 : Fld Z h142 b142 "com/example/predicate/predicate/engine/FoldedTransactions" "last" "J" (.long (0 : Int64)) := D142 (Or.inl (hw _ (List.mem_of_getElem? (i := 77) rfl))) (ty := .long) (by decide)
      have F142_pivotWrites_b142 : Fld Z h142 b142 "com/example/predicate/predicate/engine/FoldedTransactions" "pivotWrites" "J" (.long (0 : Int64)) := D142 (Or.inl (hw _ (List.mem_of_getElem? (i := 162) rfl))) (ty := .long) (by decide)
      show own_Go p.tables e below K (T142.setTop (mkF m 52 #[.val (.long c1), .second, .val (.long c2), .second, .val (.long hz), .second, .val (.long bd), .second, .val (.long po), .second, .val (.int fl), .val (.long aa), .second, .val (.long bb), .second, .val (.int (0 : Int32)), .val (.ref b138), .val (.ref b140), .unset, .unset, .unset, .unset, .unset, .unset] [(.ref b142)]))
      refine own_by (fun t k => XS.dup X142.here hx rfl (hb hby at_52) rfl rfl k) ?_
      show own_Go p.tables e below K (T142.setTop (mkF m 53 #[.val (.long c1), .second, .val (.long c2), .second, .val (.long hz), .second, .val (.long bd), .second, .val (.long po), .second, .val (.int fl), .val (.long aa), .second, .val (.long bb), .second, .val (.int (0 : Int32)), .val (.ref b138), .val (.ref b140), .unset, .unset, .unset, .unset, .unset, .unset] [(.ref b142), (.ref b142)]))
      obtain ⟨_, _, ⟨T143, L143, k143, n143⟩, -, X143, ⟨Lc143, hQ143, l143, y143, z143⟩, st143⟩ := X142.specialBack hx (y := (⟨"com/example/predicate/predicate/engine/FoldedTransactions", "<init>", "()V"⟩ : MethodName)) rfl hown (mvT hZ (hw _ (List.mem_of_getElem? (i := 35) rfl))) (mvT hZ (hw _ (List.mem_of_getElem? (i := 36) rfl))) (mvT hZ (hw _ (List.mem_of_getElem? (i := 37) rfl))) (by decide) (backOf (W := 1) (own_rmftn l Z aw hw [] b142 h142 n0 Z142 A142 gn_b142 F142_tables_b142 F142_pivots_b142 F142_pivotWrites_b142 F142_last_b142) hZ (hw _ (List.mem_of_getElem? (i := 37) rfl)) (hw _ (List.mem_of_getElem? (i := 34) rfl)) (by decide) (by decide)) (g := (mkF m 53 #[.val (.long c1), .second, .val (.long c2), .second, .val (.long hz), .second, .val (.long bd), .second, .val (.long po), .second, .val (.int fl), .val (.long aa), .second, .val (.long bb), .second, .val (.int (0 : Int32)), .val (.ref b138), .val (.ref b140), .unset, .unset, .unset, .unset, .unset, .unset] [(.ref b142), (.ref b142)])) rfl (by rw [hml]; rfl) (Steps.refl _) (a := b142) (argsL := []) (rest := [(.ref b142)]) (lenOf own_pd0 rfl) rfl (by show 2 * 0 + _ ≤ _; exact Nat.le_of_eq rfl) (hb hby at_53) (fun _ _ => ⟨rfl, e142, (by decide : 3 + 3 ≤ _), (by decide : 10 + 28 ≤ _)⟩)
      dsimp only [Pt.U, Pt.locs, Pt.cells, Pt.slots] at X143 l143 y143 z143 st143 hQ143
      subst l143 y143 z143
      obtain ⟨rfl, N143q, Kp143, hm143, dq143, el143, k143c, gh143, gd143, ge143, Bp143⟩ := hQ143
      have N143 := Fr.app N141 N143q
      refine own_by (fun t k => st143.trans k) ?_
      have F143_modCount_b138 := F142_modCount_b138.keep Kp143 (ninS ne_b138_b142 nin0)
      have F143_size_b138 := F142_size_b138.keep Kp143 (ninS ne_b138_b142 nin0)
      have F143_modCount_b140 := F142_modCount_b140.keep Kp143 (ninS ne_b140_b142 nin0)
      have F143_size_b140 := F142_size_b140.keep Kp143 (ninS ne_b140_b142 nin0)
      have Ex143_b138 := Ex142_b138.keep Kp143
      have Ex143_b140 := Ex142_b140.keep Kp143
      have Ex143_b142 := A142.keep Kp143
      have Z143 := Nat.le_trans Z142 Kp143.1
      have O143 := O142.keep Kp143 (allS gn_b142 (all0))
      show own_Go p.tables e below K (T143.setTop (mkF m 56 #[.val (.long c1), .second, .val (.long c2), .second, .val (.long hz), .second, .val (.long bd), .second, .val (.long po), .second, .val (.int fl), .val (.long aa), .second, .val (.long bb), .second, .val (.int (0 : Int32)), .val (.ref b138), .val (.ref b140), .unset, .unset, .unset, .unset, .unset, .unset] [(.ref b142)]))
      refine own_by (fun t k => XS.astore X143.here hx rfl (hb hby at_56) rfl rfl (l' := #[.val (.long c1), .second, .val (.long c2), .second, .val (.long hz), .second, .val (.long bd), .second, .val (.long po), .second, .val (.int fl), .val (.long aa), .second, .val (.long bb), .second, .val (.int (0 : Int32)), .val (.ref b138), .val (.ref b140), .val (.ref b142), .unset, .unset, .unset, .unset, .unset]) rfl k) ?_
      show own_Go p.tables e below K (T143.setTop (mkF m 58 #[.val (.long c1), .second, .val (.long c2), .second, .val (.long hz), .second, .val (.long bd), .second, .val (.long po), .second, .val (.int fl), .val (.long aa), .second, .val (.long bb), .second, .val (.int (0 : Int32)), .val (.ref b138), .val (.ref b140), .val (.ref b142), .unset, .unset, .unset, .unset, .unset] []))
      refine own_by (fun t k => XS.aload X143.here hx rfl (hb hby at_58) rfl rfl k) ?_
      show own_Go p.tables e below K (T143.setTop (mkF m 60 #[.val (.long c1), .second, .val (.long c2), .second, .val (.long hz), .second, .val (.long bd), .second, .val (.long po), .second, .val (.int fl), .val (.long aa), .second, .val (.long bb), .second, .val (.int (0 : Int32)), .val (.ref b138), .val (.ref b140), .val (.ref b142), .unset, .unset, .unset, .unset, .unset] [(.ref b142)]))
      obtain ⟨cq144, kq144, q144a, q144b, q144c⟩ := isOf hZ rfl Bp143.1
      obtain ⟨_, _, ⟨T144, L144, k144, n144⟩, -, X144, ⟨Lc144, hQ144, l144, y144, z144⟩, st144⟩ := X143.virtualBack hx (y := (⟨"com/example/predicate/predicate/engine/FoldedTransactions", "isEmpty", "()Z"⟩ : MethodName)) (z := (⟨"com/example/predicate/predicate/engine/FoldedTransactions", "isEmpty", "()Z"⟩ : MethodName)) hown (mvT hZ (hw _ (List.mem_of_getElem? (i := 71) rfl))) (mvT hZ (hw _ (List.mem_of_getElem? (i := 72) rfl))) (notFace_of_selects (args := #[]) (mvT hZ (hw _ (List.mem_of_getElem? (i := 74) rfl)))) (mvT hZ (hw _ (List.mem_of_getElem? (i := 74) rfl))) (mvT hZ (hw _ (List.mem_of_getElem? (i := 73) rfl))) (by decide) (backOf (W := 0) (own_rmemp l Z aw hw [] b142 (0 : Int64) T143.heap n0 Z143 Bp143.2.2.2.2.1) hZ (hw _ (List.mem_of_getElem? (i := 75) rfl)) (hw _ (List.mem_of_getElem? (i := 34) rfl)) (by decide) (by decide)) q144a q144c (g := (mkF m 60 #[.val (.long c1), .second, .val (.long c2), .second, .val (.long hz), .second, .val (.long bd), .second, .val (.long po), .second, .val (.int fl), .val (.long aa), .second, .val (.long bb), .second, .val (.int (0 : Int32)), .val (.ref b138), .val (.ref b140), .val (.ref b142), .unset, .unset, .unset, .unset, .unset] [(.ref b142)])) rfl (by rw [hml]; rfl) (Steps.refl _) (argsL := []) (rest := []) (lenOf own_pd5 rfl) rfl (by show 2 * 0 + _ ≤ _; exact Nat.le_of_eq rfl) (hb hby at_60) (fun _ _ => ⟨rfl, rfl, (by decide : 6 + 0 ≤ _), (by decide : 38 + 0 ≤ _)⟩)
      dsimp only [Pt.U, Pt.locs, Pt.cells, Pt.slots] at X144 l144 y144 z144 st144 hQ144
      subst l144 y144 z144
      obtain ⟨rfl, N144q, e144⟩ := hQ144
      have N144 := Fr.app N143 N144q
      refine own_by (fun t k => st144.trans k) ?_
      rw [own_emp0]
      show own_Go p.tables e below K (T144.setTop (mkF m 63 #[.val (.long c1), .second, .val (.long c2), .second, .val (.long hz), .second, .val (.long bd), .second, .val (.long po), .second, .val (.int fl), .val (.long aa), .second, .val (.long bb), .second, .val (.int (0 : Int32)), .val (.ref b138), .val (.ref b140), .val (.ref b142), .unset, .unset, .unset, .unset, .unset] [(.int (1 : Int32))]))
      refine own_by (fun t k => XS.istore X144.here hx rfl (hb hby at_63) rfl (l' := #[.val (.long c1), .second, .val (.long c2), .second, .val (.long hz), .second, .val (.long bd), .second, .val (.long po), .second, .val (.int fl), .val (.long aa), .second, .val (.long bb), .second, .val (.int (0 : Int32)), .val (.ref b138), .val (.ref b140), .val (.ref b142), .val (.int (1 : Int32)), .unset, .unset, .unset, .unset]) rfl k) ?_
      show own_Go p.tables e below K (T144.setTop (mkF m 65 #[.val (.long c1), .second, .val (.long c2), .second, .val (.long hz), .second, .val (.long bd), .second, .val (.long po), .second, .val (.int fl), .val (.long aa), .second, .val (.long bb), .second, .val (.int (0 : Int32)), .val (.ref b138), .val (.ref b140), .val (.ref b142), .val (.int (1 : Int32)), .unset, .unset, .unset, .unset] []))
      refine own_by (fun t k => XS.lconst X144.here hx rfl (hb hby at_65) k) ?_
      show own_Go p.tables e below K (T144.setTop (mkF m 66 #[.val (.long c1), .second, .val (.long c2), .second, .val (.long hz), .second, .val (.long bd), .second, .val (.long po), .second, .val (.int fl), .val (.long aa), .second, .val (.long bb), .second, .val (.int (0 : Int32)), .val (.ref b138), .val (.ref b140), .val (.ref b142), .val (.int (1 : Int32)), .unset, .unset, .unset, .unset] [(.long (0 : Int64))]))
      refine own_by (fun t k => XS.lstore X144.here hx rfl (hb hby at_66) rfl (l' := #[.val (.long c1), .second, .val (.long c2), .second, .val (.long hz), .second, .val (.long bd), .second, .val (.long po), .second, .val (.int fl), .val (.long aa), .second, .val (.long bb), .second, .val (.int (0 : Int32)), .val (.ref b138), .val (.ref b140), .val (.ref b142), .val (.int (1 : Int32)), .val (.long (0 : Int64)), .second, .unset, .unset]) rfl k) ?_
      show own_Go p.tables e below K (T144.setTop (mkF m 68 #[.val (.long c1), .second, .val (.long c2), .second, .val (.long hz), .second, .val (.long bd), .second, .val (.long po), .second, .val (.int fl), .val (.long aa), .second, .val (.long bb), .second, .val (.int (0 : Int32)), .val (.ref b138), .val (.ref b140), .val (.ref b142), .val (.int (1 : Int32)), .val (.long (0 : Int64)), .second, .unset, .unset] []))
      refine own_by (fun t k => XS.iload X144.here hx rfl (hb hby at_68) rfl k) ?_
      show own_Go p.tables e below K (T144.setTop (mkF m 70 #[.val (.long c1), .second, .val (.long c2), .second, .val (.long hz), .second, .val (.long bd), .second, .val (.long po), .second, .val (.int fl), .val (.long aa), .second, .val (.long bb), .second, .val (.int (0 : Int32)), .val (.ref b138), .val (.ref b140), .val (.ref b142), .val (.int (1 : Int32)), .val (.long (0 : Int64)), .second, .unset, .unset] [(.int (0 : Int32))]))
      refine own_by (fun t k => XS.iconst X144.here hx rfl (hb hby at_70) k) ?_
      show own_Go p.tables e below K (T144.setTop (mkF m 71 #[.val (.long c1), .second, .val (.long c2), .second, .val (.long hz), .second, .val (.long bd), .second, .val (.long po), .second, .val (.int fl), .val (.long aa), .second, .val (.long bb), .second, .val (.int (0 : Int32)), .val (.ref b138), .val (.ref b140), .val (.ref b142), .val (.int (1 : Int32)), .val (.long (0 : Int64)), .second, .unset, .unset] [(.int (1 : Int32)), (.int (0 : Int32))]))
      have hc71 : (0 : Int32) < (1 : Int32) := by decide
      refine own_by (fun t k => XS.icmpYes X144.here hx rfl (pc0 := 71) (pc' := 93) rfl (hb hby at_71) rfl (tlt hc71).1 (by decide) (by decide) k) ?_
      show own_Go p.tables e below K (T144.setTop (mkF m 93 #[.val (.long c1), .second, .val (.long c2), .second, .val (.long hz), .second, .val (.long bd), .second, .val (.long po), .second, .val (.int fl), .val (.long aa), .second, .val (.long bb), .second, .val (.int (0 : Int32)), .val (.ref b138), .val (.ref b140), .val (.ref b142), .val (.int (1 : Int32)), .val (.long (0 : Int64)), .second, .unset, .unset] []))
      refine own_by (fun t k => XS.iload X144.here hx rfl (hb hby at_93) rfl k) ?_
      show own_Go p.tables e below K (T144.setTop (mkF m 95 #[.val (.long c1), .second, .val (.long c2), .second, .val (.long hz), .second, .val (.long bd), .second, .val (.long po), .second, .val (.int fl), .val (.long aa), .second, .val (.long bb), .second, .val (.int (0 : Int32)), .val (.ref b138), .val (.ref b140), .val (.ref b142), .val (.int (1 : Int32)), .val (.long (0 : Int64)), .second, .unset, .unset] [(.int (0 : Int32))]))
      refine own_by (fun t k => XS.iconst X144.here hx rfl (hb hby at_95) k) ?_
      show own_Go p.tables e below K (T144.setTop (mkF m 96 #[.val (.long c1), .second, .val (.long c2), .second, .val (.long hz), .second, .val (.long bd), .second, .val (.long po), .second, .val (.int fl), .val (.long aa), .second, .val (.long bb), .second, .val (.int (0 : Int32)), .val (.ref b138), .val (.ref b140), .val (.ref b142), .val (.int (1 : Int32)), .val (.long (0 : Int64)), .second, .unset, .unset] [(.int (2 : Int32)), (.int (0 : Int32))]))
      have hc96 : (0 : Int32) < (2 : Int32) := by decide
      refine own_by (fun t k => XS.icmpYes X144.here hx rfl (pc0 := 96) (pc' := 123) rfl (hb hby at_96) rfl (tlt hc96).1 (by decide) (by decide) k) ?_
      show own_Go p.tables e below K (T144.setTop (mkF m 123 #[.val (.long c1), .second, .val (.long c2), .second, .val (.long hz), .second, .val (.long bd), .second, .val (.long po), .second, .val (.int fl), .val (.long aa), .second, .val (.long bb), .second, .val (.int (0 : Int32)), .val (.ref b138), .val (.ref b140), .val (.ref b142), .val (.int (1 : Int32)), .val (.long (0 : Int64)), .second, .unset, .unset] []))
      refine own_by (fun t k => XS.aload X144.here hx rfl (hb hby at_123) rfl rfl k) ?_
      show own_Go p.tables e below K (T144.setTop (mkF m 125 #[.val (.long c1), .second, .val (.long c2), .second, .val (.long hz), .second, .val (.long bd), .second, .val (.long po), .second, .val (.int fl), .val (.long aa), .second, .val (.long bb), .second, .val (.int (0 : Int32)), .val (.ref b138), .val (.ref b140), .val (.ref b142), .val (.int (1 : Int32)), .val (.long (0 : Int64)), .second, .unset, .unset] [(.ref b142)]))
      obtain ⟨cq145, kq145, q145a, q145b, q145c⟩ := isOf hZ e144 Bp143.1
      obtain ⟨_, _, ⟨T145, L145, k145, n145⟩, -, X145, ⟨Lc145, hQ145, l145, y145, z145⟩, st145⟩ := X144.virtualBack hx (y := (⟨"com/example/predicate/predicate/engine/FoldedTransactions", "isEmpty", "()Z"⟩ : MethodName)) (z := (⟨"com/example/predicate/predicate/engine/FoldedTransactions", "isEmpty", "()Z"⟩ : MethodName)) hown (mvT hZ (hw _ (List.mem_of_getElem? (i := 71) rfl))) (mvT hZ (hw _ (List.mem_of_getElem? (i := 72) rfl))) (notFace_of_selects (args := #[]) (mvT hZ (hw _ (List.mem_of_getElem? (i := 74) rfl)))) (mvT hZ (hw _ (List.mem_of_getElem? (i := 74) rfl))) (mvT hZ (hw _ (List.mem_of_getElem? (i := 73) rfl))) (by decide) (backOf (W := 0) (own_rmemp l Z aw hw [] b142 (0 : Int64) T143.heap n0 Z143 Bp143.2.2.2.2.1) hZ (hw _ (List.mem_of_getElem? (i := 75) rfl)) (hw _ (List.mem_of_getElem? (i := 34) rfl)) (by decide) (by decide)) q145a q145c (g := (mkF m 125 #[.val (.long c1), .second, .val (.long c2), .second, .val (.long hz), .second, .val (.long bd), .second, .val (.long po), .second, .val (.int fl), .val (.long aa), .second, .val (.long bb), .second, .val (.int (0 : Int32)), .val (.ref b138), .val (.ref b140), .val (.ref b142), .val (.int (1 : Int32)), .val (.long (0 : Int64)), .second, .unset, .unset] [(.ref b142)])) rfl (by rw [hml]; rfl) (Steps.refl _) (argsL := []) (rest := []) (lenOf own_pd5 rfl) rfl (by show 2 * 0 + _ ≤ _; exact Nat.le_of_eq rfl) (hb hby at_125) (fun _ _ => ⟨rfl, e144, (by decide : 6 + 0 ≤ _), (by decide : 38 + 0 ≤ _)⟩)
      dsimp only [Pt.U, Pt.locs, Pt.cells, Pt.slots] at X145 l145 y145 z145 st145 hQ145
      subst l145 y145 z145
      obtain ⟨rfl, N145q, e145⟩ := hQ145
      have N145 := Fr.app N144 N145q
      refine own_by (fun t k => st145.trans k) ?_
      rw [own_emp0]
      show own_Go p.tables e below K (T145.setTop (mkF m 128 #[.val (.long c1), .second, .val (.long c2), .second, .val (.long hz), .second, .val (.long bd), .second, .val (.long po), .second, .val (.int fl), .val (.long aa), .second, .val (.long bb), .second, .val (.int (0 : Int32)), .val (.ref b138), .val (.ref b140), .val (.ref b142), .val (.int (1 : Int32)), .val (.long (0 : Int64)), .second, .unset, .unset] [(.int (1 : Int32))]))
      refine own_by (fun t k => XS.istore X145.here hx rfl (hb hby at_128) rfl (l' := #[.val (.long c1), .second, .val (.long c2), .second, .val (.long hz), .second, .val (.long bd), .second, .val (.long po), .second, .val (.int fl), .val (.long aa), .second, .val (.long bb), .second, .val (.int (0 : Int32)), .val (.ref b138), .val (.ref b140), .val (.ref b142), .val (.int (1 : Int32)), .val (.long (0 : Int64)), .second, .val (.int (1 : Int32)), .unset]) rfl k) ?_
      show own_Go p.tables e below K (T145.setTop (mkF m 130 #[.val (.long c1), .second, .val (.long c2), .second, .val (.long hz), .second, .val (.long bd), .second, .val (.long po), .second, .val (.int fl), .val (.long aa), .second, .val (.long bb), .second, .val (.int (0 : Int32)), .val (.ref b138), .val (.ref b140), .val (.ref b142), .val (.int (1 : Int32)), .val (.long (0 : Int64)), .second, .val (.int (1 : Int32)), .unset] []))
      refine own_by (fun t k => XS.aload X145.here hx rfl (hb hby at_130) rfl rfl k) ?_
      show own_Go p.tables e below K (T145.setTop (mkF m 132 #[.val (.long c1), .second, .val (.long c2), .second, .val (.long hz), .second, .val (.long bd), .second, .val (.long po), .second, .val (.int fl), .val (.long aa), .second, .val (.long bb), .second, .val (.int (0 : Int32)), .val (.ref b138), .val (.ref b140), .val (.ref b142), .val (.int (1 : Int32)), .val (.long (0 : Int64)), .second, .val (.int (1 : Int32)), .unset] [(.ref b142)]))
      refine own_by (fun t k => XS.lload X145.here hx rfl (hb hby at_132) rfl k) ?_
      show own_Go p.tables e below K (T145.setTop (mkF m 134 #[.val (.long c1), .second, .val (.long c2), .second, .val (.long hz), .second, .val (.long bd), .second, .val (.long po), .second, .val (.int fl), .val (.long aa), .second, .val (.long bb), .second, .val (.int (0 : Int32)), .val (.ref b138), .val (.ref b140), .val (.ref b142), .val (.int (1 : Int32)), .val (.long (0 : Int64)), .second, .val (.int (1 : Int32)), .unset] [(.long hz), (.ref b142)]))
      obtain ⟨cq146, kq146, q146a, q146b, q146c⟩ := isOf hZ e145 Bp143.1
      obtain ⟨_, _, ⟨T146, L146, k146, n146⟩, -, X146, ⟨Lc146, hQ146, l146, y146, z146⟩, st146⟩ := X145.virtualBack hx (y := (⟨"com/example/predicate/predicate/engine/FoldedTransactions", "forgetSeenWithin", "(J)V"⟩ : MethodName)) (z := (⟨"com/example/predicate/predicate/engine/FoldedTransactions", "forgetSeenWithin", "(J)V"⟩ : MethodName)) hown (mvT hZ (hw _ (List.mem_of_getElem? (i := 173) rfl))) (mvT hZ (hw _ (List.mem_of_getElem? (i := 174) rfl))) (notFace_of_selects (args := #[]) (mvT hZ (hw _ (List.mem_of_getElem? (i := 176) rfl)))) (mvT hZ (hw _ (List.mem_of_getElem? (i := 176) rfl))) (mvT hZ (hw _ (List.mem_of_getElem? (i := 175) rfl))) (by decide) (backOf (W := 0) (own_rmfgt0 l Z aw hw [] b142 hz hm143 dq143 el143 k143c (0 : Int32) (0 : Int64) T143.heap n0 Z143 Bp143 gn_b142 gh143 gd143 ge143) hZ (hw _ (List.mem_of_getElem? (i := 177) rfl)) (hw _ (List.mem_of_getElem? (i := 34) rfl)) (by decide) (by decide)) q146a q146c (g := (mkF m 134 #[.val (.long c1), .second, .val (.long c2), .second, .val (.long hz), .second, .val (.long bd), .second, .val (.long po), .second, .val (.int fl), .val (.long aa), .second, .val (.long bb), .second, .val (.int (0 : Int32)), .val (.ref b138), .val (.ref b140), .val (.ref b142), .val (.int (1 : Int32)), .val (.long (0 : Int64)), .second, .val (.int (1 : Int32)), .unset] [(.long hz), (.ref b142)])) rfl (by rw [hml]; rfl) (Steps.refl _) (argsL := [(.long hz)]) (rest := []) (lenOf own_pd12 rfl) rfl (by show 2 * 0 + _ ≤ _; exact Nat.le_of_eq rfl) (hb hby at_134) (fun _ _ => ⟨rfl, e145, (by decide : 6 + 0 ≤ _), (by decide : 38 + 0 ≤ _)⟩)
      dsimp only [Pt.U, Pt.locs, Pt.cells, Pt.slots] at X146 l146 y146 z146 st146 hQ146
      subst l146 y146 z146
      obtain ⟨rfl, N146q, Xp146, Lp146⟩ := hQ146
      have N146 := Fr.app N145 N146q
      refine own_by (fun t k => st146.trans k) ?_
      have Zq146 : n0 ≤ T146.heap.size := Nat.le_of_lt (Nat.lt_of_le_of_lt gn_b142 Xp146.lt)
      show own_Go p.tables e below K (T146.setTop (mkF m 137 #[.val (.long c1), .second, .val (.long c2), .second, .val (.long hz), .second, .val (.long bd), .second, .val (.long po), .second, .val (.int fl), .val (.long aa), .second, .val (.long bb), .second, .val (.int (0 : Int32)), .val (.ref b138), .val (.ref b140), .val (.ref b142), .val (.int (1 : Int32)), .val (.long (0 : Int64)), .second, .val (.int (1 : Int32)), .unset] []))
      refine own_by (fun t k => XS.aload X146.here hx rfl (hb hby at_137) rfl rfl k) ?_
      show own_Go p.tables e below K (T146.setTop (mkF m 139 #[.val (.long c1), .second, .val (.long c2), .second, .val (.long hz), .second, .val (.long bd), .second, .val (.long po), .second, .val (.int fl), .val (.long aa), .second, .val (.long bb), .second, .val (.int (0 : Int32)), .val (.ref b138), .val (.ref b140), .val (.ref b142), .val (.int (1 : Int32)), .val (.long (0 : Int64)), .second, .val (.int (1 : Int32)), .unset] [(.ref b142)]))
      obtain ⟨cq147, kq147, q147a, q147b, q147c⟩ := isOf hZ rfl Xp146
      obtain ⟨_, _, ⟨T147, L147, k147, n147⟩, -, X147, ⟨Lc147, hQ147, l147, y147, z147⟩, st147⟩ := X146.virtualBack hx (y := (⟨"com/example/predicate/predicate/engine/FoldedTransactions", "isEmpty", "()Z"⟩ : MethodName)) (z := (⟨"com/example/predicate/predicate/engine/FoldedTransactions", "isEmpty", "()Z"⟩ : MethodName)) hown (mvT hZ (hw _ (List.mem_of_getElem? (i := 71) rfl))) (mvT hZ (hw _ (List.mem_of_getElem? (i := 72) rfl))) (notFace_of_selects (args := #[]) (mvT hZ (hw _ (List.mem_of_getElem? (i := 74) rfl)))) (mvT hZ (hw _ (List.mem_of_getElem? (i := 74) rfl))) (mvT hZ (hw _ (List.mem_of_getElem? (i := 73) rfl))) (by decide) (backOf (W := 0) (own_rmemp l Z aw hw [] b142 (own_fgt (0 : Int64) hz) T146.heap n0 Zq146 Lp146) hZ (hw _ (List.mem_of_getElem? (i := 75) rfl)) (hw _ (List.mem_of_getElem? (i := 34) rfl)) (by decide) (by decide)) q147a q147c (g := (mkF m 139 #[.val (.long c1), .second, .val (.long c2), .second, .val (.long hz), .second, .val (.long bd), .second, .val (.long po), .second, .val (.int fl), .val (.long aa), .second, .val (.long bb), .second, .val (.int (0 : Int32)), .val (.ref b138), .val (.ref b140), .val (.ref b142), .val (.int (1 : Int32)), .val (.long (0 : Int64)), .second, .val (.int (1 : Int32)), .unset] [(.ref b142)])) rfl (by rw [hml]; rfl) (Steps.refl _) (argsL := []) (rest := []) (lenOf own_pd5 rfl) rfl (by show 2 * 0 + _ ≤ _; exact Nat.le_of_eq rfl) (hb hby at_139) (fun _ _ => ⟨rfl, rfl, (by decide : 6 + 0 ≤ _), (by decide : 38 + 0 ≤ _)⟩)
      dsimp only [Pt.U, Pt.locs, Pt.cells, Pt.slots] at X147 l147 y147 z147 st147 hQ147
      subst l147 y147 z147
      obtain ⟨rfl, N147q, e147⟩ := hQ147
      have N147 := Fr.app N146 N147q
      refine own_by (fun t k => st147.trans k) ?_
      rw [own_fgt0, own_emp0]
      show own_Go p.tables e below K (T147.setTop (mkF m 142 #[.val (.long c1), .second, .val (.long c2), .second, .val (.long hz), .second, .val (.long bd), .second, .val (.long po), .second, .val (.int fl), .val (.long aa), .second, .val (.long bb), .second, .val (.int (0 : Int32)), .val (.ref b138), .val (.ref b140), .val (.ref b142), .val (.int (1 : Int32)), .val (.long (0 : Int64)), .second, .val (.int (1 : Int32)), .unset] [(.int (1 : Int32))]))
      refine own_by (fun t k => XS.istore X147.here hx rfl (hb hby at_142) rfl (l' := #[.val (.long c1), .second, .val (.long c2), .second, .val (.long hz), .second, .val (.long bd), .second, .val (.long po), .second, .val (.int fl), .val (.long aa), .second, .val (.long bb), .second, .val (.int (0 : Int32)), .val (.ref b138), .val (.ref b140), .val (.ref b142), .val (.int (1 : Int32)), .val (.long (0 : Int64)), .second, .val (.int (1 : Int32)), .val (.int (1 : Int32))]) rfl k) ?_
      show own_Go p.tables e below K (T147.setTop (mkF m 144 #[.val (.long c1), .second, .val (.long c2), .second, .val (.long hz), .second, .val (.long bd), .second, .val (.long po), .second, .val (.int fl), .val (.long aa), .second, .val (.long bb), .second, .val (.int (0 : Int32)), .val (.ref b138), .val (.ref b140), .val (.ref b142), .val (.int (1 : Int32)), .val (.long (0 : Int64)), .second, .val (.int (1 : Int32)), .val (.int (1 : Int32))] []))
      refine own_by (fun t k => XS.iload X147.here hx rfl (hb hby at_144) rfl k) ?_
      show own_Go p.tables e below K (T147.setTop (mkF m 146 #[.val (.long c1), .second, .val (.long c2), .second, .val (.long hz), .second, .val (.long bd), .second, .val (.long po), .second, .val (.int fl), .val (.long aa), .second, .val (.long bb), .second, .val (.int (0 : Int32)), .val (.ref b138), .val (.ref b140), .val (.ref b142), .val (.int (1 : Int32)), .val (.long (0 : Int64)), .second, .val (.int (1 : Int32)), .val (.int (1 : Int32))] [(.int (1 : Int32))]))
      have hc146 : ¬ ((1 : Int32) = (0 : Int32)) := by decide
      refine own_by (fun t k => XS.ifNo X147.here hx rfl (hb hby at_146) rfl ((if0 _ _).trans (feq hc146).1) k) ?_
      show own_Go p.tables e below K (T147.setTop (mkF m 149 #[.val (.long c1), .second, .val (.long c2), .second, .val (.long hz), .second, .val (.long bd), .second, .val (.long po), .second, .val (.int fl), .val (.long aa), .second, .val (.long bb), .second, .val (.int (0 : Int32)), .val (.ref b138), .val (.ref b140), .val (.ref b142), .val (.int (1 : Int32)), .val (.long (0 : Int64)), .second, .val (.int (1 : Int32)), .val (.int (1 : Int32))] []))
      refine own_by (fun t k => XS.iload X147.here hx rfl (hb hby at_149) rfl k) ?_
      show own_Go p.tables e below K (T147.setTop (mkF m 151 #[.val (.long c1), .second, .val (.long c2), .second, .val (.long hz), .second, .val (.long bd), .second, .val (.long po), .second, .val (.int fl), .val (.long aa), .second, .val (.long bb), .second, .val (.int (0 : Int32)), .val (.ref b138), .val (.ref b140), .val (.ref b142), .val (.int (1 : Int32)), .val (.long (0 : Int64)), .second, .val (.int (1 : Int32)), .val (.int (1 : Int32))] [(.int (1 : Int32))]))
      refine own_by (fun t k => XS.iload X147.here hx rfl (hb hby at_151) rfl k) ?_
      show own_Go p.tables e below K (T147.setTop (mkF m 153 #[.val (.long c1), .second, .val (.long c2), .second, .val (.long hz), .second, .val (.long bd), .second, .val (.long po), .second, .val (.int fl), .val (.long aa), .second, .val (.long bb), .second, .val (.int (0 : Int32)), .val (.ref b138), .val (.ref b140), .val (.ref b142), .val (.int (1 : Int32)), .val (.long (0 : Int64)), .second, .val (.int (1 : Int32)), .val (.int (1 : Int32))] [(.int (0 : Int32)), (.int (1 : Int32))]))
      have hc153 : (0 : Int32) = (0 : Int32) := by decide
      refine own_by (fun t k => XS.ifNo X147.here hx rfl (hb hby at_153) rfl ((if0 _ _).trans (teq hc153).2) k) ?_
      show own_Go p.tables e below K (T147.setTop (mkF m 156 #[.val (.long c1), .second, .val (.long c2), .second, .val (.long hz), .second, .val (.long bd), .second, .val (.long po), .second, .val (.int fl), .val (.long aa), .second, .val (.long bb), .second, .val (.int (0 : Int32)), .val (.ref b138), .val (.ref b140), .val (.ref b142), .val (.int (1 : Int32)), .val (.long (0 : Int64)), .second, .val (.int (1 : Int32)), .val (.int (1 : Int32))] [(.int (1 : Int32))]))
      refine own_by (fun t k => XS.iconst X147.here hx rfl (hb hby at_156) k) ?_
      show own_Go p.tables e below K (T147.setTop (mkF m 157 #[.val (.long c1), .second, .val (.long c2), .second, .val (.long hz), .second, .val (.long bd), .second, .val (.long po), .second, .val (.int fl), .val (.long aa), .second, .val (.long bb), .second, .val (.int (0 : Int32)), .val (.ref b138), .val (.ref b140), .val (.ref b142), .val (.int (1 : Int32)), .val (.long (0 : Int64)), .second, .val (.int (1 : Int32)), .val (.int (1 : Int32))] [(.int (1 : Int32)), (.int (1 : Int32))]))
      refine own_by (fun t k => XS.goto X147.here hx rfl (pc0 := 157) (pc' := 161) rfl (hb hby at_157) (by decide) (by decide) k) ?_
      show own_Go p.tables e below K (T147.setTop (mkF m 161 #[.val (.long c1), .second, .val (.long c2), .second, .val (.long hz), .second, .val (.long bd), .second, .val (.long po), .second, .val (.int fl), .val (.long aa), .second, .val (.long bb), .second, .val (.int (0 : Int32)), .val (.ref b138), .val (.ref b140), .val (.ref b142), .val (.int (1 : Int32)), .val (.long (0 : Int64)), .second, .val (.int (1 : Int32)), .val (.int (1 : Int32))] [(.int (1 : Int32)), (.int (1 : Int32))]))
      have hc161 : (1 : Int32) = (1 : Int32) := by decide
      refine own_by (fun t k => XS.icmpNo X147.here hx rfl (hb hby at_161) rfl (teq hc161).2 k) ?_
      show own_Go p.tables e below K (T147.setTop (mkF m 164 #[.val (.long c1), .second, .val (.long c2), .second, .val (.long hz), .second, .val (.long bd), .second, .val (.long po), .second, .val (.int fl), .val (.long aa), .second, .val (.long bb), .second, .val (.int (0 : Int32)), .val (.ref b138), .val (.ref b140), .val (.ref b142), .val (.int (1 : Int32)), .val (.long (0 : Int64)), .second, .val (.int (1 : Int32)), .val (.int (1 : Int32))] []))
      refine own_by (fun t k => XS.iload X147.here hx rfl (hb hby at_164) rfl k) ?_
      show own_Go p.tables e below K (T147.setTop (mkF m 166 #[.val (.long c1), .second, .val (.long c2), .second, .val (.long hz), .second, .val (.long bd), .second, .val (.long po), .second, .val (.int fl), .val (.long aa), .second, .val (.long bb), .second, .val (.int (0 : Int32)), .val (.ref b138), .val (.ref b140), .val (.ref b142), .val (.int (1 : Int32)), .val (.long (0 : Int64)), .second, .val (.int (1 : Int32)), .val (.int (1 : Int32))] [(.int (1 : Int32))]))
      refine own_by (fun t k => XS.iload X147.here hx rfl (hb hby at_166) rfl k) ?_
      show own_Go p.tables e below K (T147.setTop (mkF m 168 #[.val (.long c1), .second, .val (.long c2), .second, .val (.long hz), .second, .val (.long bd), .second, .val (.long po), .second, .val (.int fl), .val (.long aa), .second, .val (.long bb), .second, .val (.int (0 : Int32)), .val (.ref b138), .val (.ref b140), .val (.ref b142), .val (.int (1 : Int32)), .val (.long (0 : Int64)), .second, .val (.int (1 : Int32)), .val (.int (1 : Int32))] [(.int (0 : Int32)), (.int (1 : Int32))]))
      have hc168 : (0 : Int32) = (0 : Int32) := by decide
      refine own_by (fun t k => XS.ifYes X147.here hx rfl (pc0 := 168) (pc' := 179) rfl (hb hby at_168) rfl ((if0 _ _).trans (teq hc168).1) (by decide) (by decide) k) ?_
      show own_Go p.tables e below K (T147.setTop (mkF m 179 #[.val (.long c1), .second, .val (.long c2), .second, .val (.long hz), .second, .val (.long bd), .second, .val (.long po), .second, .val (.int fl), .val (.long aa), .second, .val (.long bb), .second, .val (.int (0 : Int32)), .val (.ref b138), .val (.ref b140), .val (.ref b142), .val (.int (1 : Int32)), .val (.long (0 : Int64)), .second, .val (.int (1 : Int32)), .val (.int (1 : Int32))] [(.int (1 : Int32))]))
      refine own_by (fun t k => XS.iconst X147.here hx rfl (hb hby at_179) k) ?_
      show own_Go p.tables e below K (T147.setTop (mkF m 180 #[.val (.long c1), .second, .val (.long c2), .second, .val (.long hz), .second, .val (.long bd), .second, .val (.long po), .second, .val (.int fl), .val (.long aa), .second, .val (.long bb), .second, .val (.int (0 : Int32)), .val (.ref b138), .val (.ref b140), .val (.ref b142), .val (.int (1 : Int32)), .val (.long (0 : Int64)), .second, .val (.int (1 : Int32)), .val (.int (1 : Int32))] [(.int (1 : Int32)), (.int (1 : Int32))]))
      refine own_by (fun t k => XS.goto X147.here hx rfl (pc0 := 180) (pc' := 184) rfl (hb hby at_180) (by decide) (by decide) k) ?_
      show own_Go p.tables e below K (T147.setTop (mkF m 184 #[.val (.long c1), .second, .val (.long c2), .second, .val (.long hz), .second, .val (.long bd), .second, .val (.long po), .second, .val (.int fl), .val (.long aa), .second, .val (.long bb), .second, .val (.int (0 : Int32)), .val (.ref b138), .val (.ref b140), .val (.ref b142), .val (.int (1 : Int32)), .val (.long (0 : Int64)), .second, .val (.int (1 : Int32)), .val (.int (1 : Int32))] [(.int (1 : Int32)), (.int (1 : Int32))]))
      have hc184 : (1 : Int32) = (1 : Int32) := by decide
      refine own_by (fun t k => XS.icmpNo X147.here hx rfl (hb hby at_184) rfl (teq hc184).2 k) ?_
      show own_Go p.tables e below K (T147.setTop (mkF m 187 #[.val (.long c1), .second, .val (.long c2), .second, .val (.long hz), .second, .val (.long bd), .second, .val (.long po), .second, .val (.int fl), .val (.long aa), .second, .val (.long bb), .second, .val (.int (0 : Int32)), .val (.ref b138), .val (.ref b140), .val (.ref b142), .val (.int (1 : Int32)), .val (.long (0 : Int64)), .second, .val (.int (1 : Int32)), .val (.int (1 : Int32))] []))
      refine own_by (fun t k => XS.iconst X147.here hx rfl (hb hby at_187) k) ?_
      show own_Go p.tables e below K (T147.setTop (mkF m 188 #[.val (.long c1), .second, .val (.long c2), .second, .val (.long hz), .second, .val (.long bd), .second, .val (.long po), .second, .val (.int fl), .val (.long aa), .second, .val (.long bb), .second, .val (.int (0 : Int32)), .val (.ref b138), .val (.ref b140), .val (.ref b142), .val (.int (1 : Int32)), .val (.long (0 : Int64)), .second, .val (.int (1 : Int32)), .val (.int (1 : Int32))] [(.int (1 : Int32))]))
      refine own_by (fun t k => XS.goto X147.here hx rfl (pc0 := 188) (pc' := 192) rfl (hb hby at_188) (by decide) (by decide) k) ?_
      show own_Go p.tables e below K (T147.setTop (mkF m 192 #[.val (.long c1), .second, .val (.long c2), .second, .val (.long hz), .second, .val (.long bd), .second, .val (.long po), .second, .val (.int fl), .val (.long aa), .second, .val (.long bb), .second, .val (.int (0 : Int32)), .val (.ref b138), .val (.ref b140), .val (.ref b142), .val (.int (1 : Int32)), .val (.long (0 : Int64)), .second, .val (.int (1 : Int32)), .val (.int (1 : Int32))] [(.int (1 : Int32))]))
      exact own_retZ X147 hx (t := .boolean) hret (by simp) (hb hby at_192) (hK (some (.int (1 : Int32))) X147 (fun h => by rw [hret] at h; cases h) (⟨rfl, N147⟩) (by decide) (by decide))
    · show own_Go p.tables e below K (T137.setTop (mkF m 31 #[.val (.long c1), .second, .val (.long c2), .second, .val (.long hz), .second, .val (.long bd), .second, .val (.long po), .second, .val (.int fl), .val (.long aa), .second, .val (.long bb), .second, .val (.int (1 : Int32)), .unset, .unset, .unset, .unset, .unset, .unset, .unset, .unset] []))
      obtain ⟨T148, h148, X148, e148, E148, A148, D148, -, st148⟩ := newO X137 hx hZ hown (hw _ (List.mem_of_getElem? (i := 6) rfl)) (hw _ (List.mem_of_getElem? (i := 7) rfl)) (hw _ (List.mem_of_getElem? (i := 8) rfl)) e137 (g := (mkF m 31 #[.val (.long c1), .second, .val (.long c2), .second, .val (.long hz), .second, .val (.long bd), .second, .val (.long po), .second, .val (.int fl), .val (.long aa), .second, .val (.long bb), .second, .val (.int (1 : Int32)), .unset, .unset, .unset, .unset, .unset, .unset, .unset, .unset] [])) rfl (hb hby at_31) (by decide) (by decide)
      obtain ⟨b148, g148⟩ : ∃ z, z = h0.size := ⟨_, rfl⟩
      rw [← g148] at A148 D148 st148
      refine own_by st148 ?_
      have gn_b148 : n0 ≤ b148 := Nat.le_trans Z0 (Nat.le_of_eq g148.symm)
      have Z148 := Nat.le_trans Z0 E148.1
      have O148 := O0.ext E148
      have F148_modCount_b148 : Fld Z h148 b148 "java/util/AbstractList" "modCount" "I" (.int (0 : Int32)) := D148 (Or.inl (hw _ (List.mem_of_getElem? (i := 28) rfl))) (ty := .int) (by decide)
      have F148_elementData_b148 : Fld Z h148 b148 "java/util/ArrayList" "elementData" "[Ljava/lang/Object;" .null := D148 (Or.inl (hw _ (List.mem_of_getElem? (i := 31) rfl))) (ty := (.array (.object "java/lang/Object"))) (by decide)
      have F148_size_b148 : Fld Z h148 b148 "java/util/ArrayList" "size" "I" (.int (0 : Int32)) := D148 (Or.inl (hw _ (List.mem_of_getElem? (i := 120) rfl))) (ty := .int) (by decide)
      show own_Go p.tables e below K (T148.setTop (mkF m 34 #[.val (.long c1), .second, .val (.long c2), .second, .val (.long hz), .second, .val (.long bd), .second, .val (.long po), .second, .val (.int fl), .val (.long aa), .second, .val (.long bb), .second, .val (.int (1 : Int32)), .unset, .unset, .unset, .unset, .unset, .unset, .unset, .unset] [(.ref b148)]))
      refine own_by (fun t k => XS.dup X148.here hx rfl (hb hby at_34) rfl rfl k) ?_
      show own_Go p.tables e below K (T148.setTop (mkF m 35 #[.val (.long c1), .second, .val (.long c2), .second, .val (.long hz), .second, .val (.long bd), .second, .val (.long po), .second, .val (.int fl), .val (.long aa), .second, .val (.long bb), .second, .val (.int (1 : Int32)), .unset, .unset, .unset, .unset, .unset, .unset, .unset, .unset] [(.ref b148), (.ref b148)]))
      obtain ⟨_, _, ⟨T149, L149, k149, n149⟩, -, X149, ⟨Lc149, hQ149, l149, y149, z149⟩, st149⟩ := X148.specialBack hx (y := (⟨"java/util/ArrayList", "<init>", "()V"⟩ : MethodName)) rfl hown (mvT hZ (hw _ (List.mem_of_getElem? (i := 9) rfl))) (mvT hZ (hw _ (List.mem_of_getElem? (i := 10) rfl))) (mvT hZ (hw _ (List.mem_of_getElem? (i := 11) rfl))) (by decide) (backOf (W := 1) (own_rmaln l Z aw hw [] b148 dd h148 n0 Z148 A148 gn_b148 F148_modCount_b148 F148_elementData_b148 F148_size_b148 O148 S0) hZ (hw _ (List.mem_of_getElem? (i := 11) rfl)) (hw _ (List.mem_of_getElem? (i := 8) rfl)) (by decide) (by decide)) (g := (mkF m 35 #[.val (.long c1), .second, .val (.long c2), .second, .val (.long hz), .second, .val (.long bd), .second, .val (.long po), .second, .val (.int fl), .val (.long aa), .second, .val (.long bb), .second, .val (.int (1 : Int32)), .unset, .unset, .unset, .unset, .unset, .unset, .unset, .unset] [(.ref b148), (.ref b148)])) rfl (by rw [hml]; rfl) (Steps.refl _) (a := b148) (argsL := []) (rest := [(.ref b148)]) (lenOf own_pd0 rfl) rfl (by show 2 * 0 + _ ≤ _; exact Nat.le_of_eq rfl) (hb hby at_35) (fun _ _ => ⟨rfl, e148, (by decide : 1 + 0 ≤ _), (by decide : 3 + 0 ≤ _)⟩)
      dsimp only [Pt.U, Pt.locs, Pt.cells, Pt.slots] at X149 l149 y149 z149 st149 hQ149
      subst l149 y149 z149
      obtain ⟨rfl, N149q, Kp149, Bp149⟩ := hQ149
      have N149 := Fr.app N137 N149q
      refine own_by (fun t k => st149.trans k) ?_
      have Ex149_b148 := A148.keep Kp149
      have Z149 := Nat.le_trans Z148 Kp149.1
      have O149 := O148.keep Kp149 (allS gn_b148 (all0))
      show own_Go p.tables e below K (T149.setTop (mkF m 38 #[.val (.long c1), .second, .val (.long c2), .second, .val (.long hz), .second, .val (.long bd), .second, .val (.long po), .second, .val (.int fl), .val (.long aa), .second, .val (.long bb), .second, .val (.int (1 : Int32)), .unset, .unset, .unset, .unset, .unset, .unset, .unset, .unset] [(.ref b148)]))
      refine own_by (fun t k => XS.astore X149.here hx rfl (hb hby at_38) rfl rfl (l' := #[.val (.long c1), .second, .val (.long c2), .second, .val (.long hz), .second, .val (.long bd), .second, .val (.long po), .second, .val (.int fl), .val (.long aa), .second, .val (.long bb), .second, .val (.int (1 : Int32)), .val (.ref b148), .unset, .unset, .unset, .unset, .unset, .unset, .unset]) rfl k) ?_
      show own_Go p.tables e below K (T149.setTop (mkF m 40 #[.val (.long c1), .second, .val (.long c2), .second, .val (.long hz), .second, .val (.long bd), .second, .val (.long po), .second, .val (.int fl), .val (.long aa), .second, .val (.long bb), .second, .val (.int (1 : Int32)), .val (.ref b148), .unset, .unset, .unset, .unset, .unset, .unset, .unset] []))
      obtain ⟨T150, h150, X150, e150, E150, A150, D150, -, st150⟩ := newO X149 hx hZ hown (hw _ (List.mem_of_getElem? (i := 6) rfl)) (hw _ (List.mem_of_getElem? (i := 7) rfl)) (hw _ (List.mem_of_getElem? (i := 8) rfl)) rfl (g := (mkF m 40 #[.val (.long c1), .second, .val (.long c2), .second, .val (.long hz), .second, .val (.long bd), .second, .val (.long po), .second, .val (.int fl), .val (.long aa), .second, .val (.long bb), .second, .val (.int (1 : Int32)), .val (.ref b148), .unset, .unset, .unset, .unset, .unset, .unset, .unset] [])) rfl (hb hby at_40) (by decide) (by decide)
      obtain ⟨b150, g150⟩ : ∃ z, z = T149.heap.size := ⟨_, rfl⟩
      rw [← g150] at A150 D150 st150
      refine own_by st150 ?_
      have gn_b150 : n0 ≤ b150 := Nat.le_trans Z149 (Nat.le_of_eq g150.symm)
      have ne_b148_b150 : b148 ≠ b150 := Nat.ne_of_lt (Nat.lt_of_lt_of_le Bp149.1.lt (Nat.le_of_eq g150.symm))
      have F150_modCount_b148 := Bp149.2.1.ext E150
      have F150_size_b148 := Bp149.2.2.ext E150
      have Ex150_b148 := Bp149.1.ext E150
      have Z150 := Nat.le_trans Z149 E150.1
      have O150 := O149.ext E150
      have F150_modCount_b150 : Fld Z h150 b150 "java/util/AbstractList" "modCount" "I" (.int (0 : Int32)) := D150 (Or.inl (hw _ (List.mem_of_getElem? (i := 28) rfl))) (ty := .int) (by decide)
      have F150_elementData_b150 : Fld Z h150 b150 "java/util/ArrayList" "elementData" "[Ljava/lang/Object;" .null := D150 (Or.inl (hw _ (List.mem_of_getElem? (i := 31) rfl))) (ty := (.array (.object "java/lang/Object"))) (by decide)
      have F150_size_b150 : Fld Z h150 b150 "java/util/ArrayList" "size" "I" (.int (0 : Int32)) := D150 (Or.inl (hw _ (List.mem_of_getElem? (i := 120) rfl))) (ty := .int) (by decide)
      show own_Go p.tables e below K (T150.setTop (mkF m 43 #[.val (.long c1), .second, .val (.long c2), .second, .val (.long hz), .second, .val (.long bd), .second, .val (.long po), .second, .val (.int fl), .val (.long aa), .second, .val (.long bb), .second, .val (.int (1 : Int32)), .val (.ref b148), .unset, .unset, .unset, .unset, .unset, .unset, .unset] [(.ref b150)]))
      refine own_by (fun t k => XS.dup X150.here hx rfl (hb hby at_43) rfl rfl k) ?_
      show own_Go p.tables e below K (T150.setTop (mkF m 44 #[.val (.long c1), .second, .val (.long c2), .second, .val (.long hz), .second, .val (.long bd), .second, .val (.long po), .second, .val (.int fl), .val (.long aa), .second, .val (.long bb), .second, .val (.int (1 : Int32)), .val (.ref b148), .unset, .unset, .unset, .unset, .unset, .unset, .unset] [(.ref b150), (.ref b150)]))
      obtain ⟨_, _, ⟨T151, L151, k151, n151⟩, -, X151, ⟨Lc151, hQ151, l151, y151, z151⟩, st151⟩ := X150.specialBack hx (y := (⟨"java/util/ArrayList", "<init>", "()V"⟩ : MethodName)) rfl hown (mvT hZ (hw _ (List.mem_of_getElem? (i := 9) rfl))) (mvT hZ (hw _ (List.mem_of_getElem? (i := 10) rfl))) (mvT hZ (hw _ (List.mem_of_getElem? (i := 11) rfl))) (by decide) (backOf (W := 1) (own_rmaln l Z aw hw [] b150 dd h150 n0 Z150 A150 gn_b150 F150_modCount_b150 F150_elementData_b150 F150_size_b150 O150 S0) hZ (hw _ (List.mem_of_getElem? (i := 11) rfl)) (hw _ (List.mem_of_getElem? (i := 8) rfl)) (by decide) (by decide)) (g := (mkF m 44 #[.val (.long c1), .second, .val (.long c2), .second, .val (.long hz), .second, .val (.long bd), .second, .val (.long po), .second, .val (.int fl), .val (.long aa), .second, .val (.long bb), .second, .val (.int (1 : Int32)), .val (.ref b148), .unset, .unset, .unset, .unset, .unset, .unset, .unset] [(.ref b150), (.ref b150)])) rfl (by rw [hml]; rfl) (Steps.refl _) (a := b150) (argsL := []) (rest := [(.ref b150)]) (lenOf own_pd0 rfl) rfl (by show 2 * 0 + _ ≤ _; exact Nat.le_of_eq rfl) (hb hby at_44) (fun _ _ => ⟨rfl, e150, (by decide : 2 + 0 ≤ _), (by decide : 6 + 0 ≤ _)⟩)
      dsimp only [Pt.U, Pt.locs, Pt.cells, Pt.slots] at X151 l151 y151 z151 st151 hQ151
      subst l151 y151 z151
      obtain ⟨rfl, N151q, Kp151, Bp151⟩ := hQ151
      have N151 := Fr.app N149 N151q
      refine own_by (fun t k => st151.trans k) ?_
      have F151_modCount_b148 := F150_modCount_b148.keep Kp151 (ninS ne_b148_b150 nin0)
      have F151_size_b148 := F150_size_b148.keep Kp151 (ninS ne_b148_b150 nin0)
      have Ex151_b148 := Ex150_b148.keep Kp151
      have Ex151_b150 := A150.keep Kp151
      have Z151 := Nat.le_trans Z150 Kp151.1
      have O151 := O150.keep Kp151 (allS gn_b150 (all0))
      show own_Go p.tables e below K (T151.setTop (mkF m 47 #[.val (.long c1), .second, .val (.long c2), .second, .val (.long hz), .second, .val (.long bd), .second, .val (.long po), .second, .val (.int fl), .val (.long aa), .second, .val (.long bb), .second, .val (.int (1 : Int32)), .val (.ref b148), .unset, .unset, .unset, .unset, .unset, .unset, .unset] [(.ref b150)]))
      refine own_by (fun t k => XS.astore X151.here hx rfl (hb hby at_47) rfl rfl (l' := #[.val (.long c1), .second, .val (.long c2), .second, .val (.long hz), .second, .val (.long bd), .second, .val (.long po), .second, .val (.int fl), .val (.long aa), .second, .val (.long bb), .second, .val (.int (1 : Int32)), .val (.ref b148), .val (.ref b150), .unset, .unset, .unset, .unset, .unset, .unset]) rfl k) ?_
      show own_Go p.tables e below K (T151.setTop (mkF m 49 #[.val (.long c1), .second, .val (.long c2), .second, .val (.long hz), .second, .val (.long bd), .second, .val (.long po), .second, .val (.int fl), .val (.long aa), .second, .val (.long bb), .second, .val (.int (1 : Int32)), .val (.ref b148), .val (.ref b150), .unset, .unset, .unset, .unset, .unset, .unset] []))
      obtain ⟨T152, h152, X152, e152, E152, A152, D152, -, st152⟩ := newO X151 hx hZ hown (hw _ (List.mem_of_getElem? (i := 32) rfl)) (hw _ (List.mem_of_getElem? (i := 33) rfl)) (hw _ (List.mem_of_getElem? (i := 34) rfl)) rfl (g := (mkF m 49 #[.val (.long c1), .second, .val (.long c2), .second, .val (.long hz), .second, .val (.long bd), .second, .val (.long po), .second, .val (.int fl), .val (.long aa), .second, .val (.long bb), .second, .val (.int (1 : Int32)), .val (.ref b148), .val (.ref b150), .unset, .unset, .unset, .unset, .unset, .unset] [])) rfl (hb hby at_49) (by decide) (by decide)
      obtain ⟨b152, g152⟩ : ∃ z, z = T151.heap.size := ⟨_, rfl⟩
      rw [← g152] at A152 D152 st152
      refine own_by st152 ?_
      have gn_b152 : n0 ≤ b152 := Nat.le_trans Z151 (Nat.le_of_eq g152.symm)
      have ne_b148_b152 : b148 ≠ b152 := Nat.ne_of_lt (Nat.lt_of_lt_of_le Ex151_b148.lt (Nat.le_of_eq g152.symm))
      have ne_b150_b152 : b150 ≠ b152 := Nat.ne_of_lt (Nat.lt_of_lt_of_le Bp151.1.lt (Nat.le_of_eq g152.symm))
      have F152_modCount_b148 := F151_modCount_b148.ext E152
      have F152_size_b148 := F151_size_b148.ext E152
      have F152_modCount_b150 := Bp151.2.1.ext E152
      have F152_size_b150 := Bp151.2.2.ext E152
      have Ex152_b148 := Ex151_b148.ext E152
      have Ex152_b150 := Bp151.1.ext E152
      have Z152 := Nat.le_trans Z151 E152.1
      have O152 := O151.ext E152
      have F152_tables_b152 : Fld Z h152 b152 "com/example/predicate/predicate/engine/FoldedTransactions" "tables" "Ljava/util/Map;" .null := D152 (Or.inr (hw _ (List.mem_of_getElem? (i := 56) rfl))) (ty := (.object "java/util/Map")) (by decide)
      have F152_pivots_b152 : Fld Z h152 b152 "com/example/predicate/predicate/engine/FoldedTransactions" "pivots" "Ljava/util/Deque;" .null := D152 (Or.inr (hw _ (List.mem_of_getElem? (i := 70) rfl))) (ty := (.object "java/util/Deque")) (by decide)
      have F152_last_b152 : Fld Z h152 b152 "com/example/predicate/predicate/engine/FoldedTransactions" "last" "J" (.long (0 : Int64)) := D152 (Or.inl (hw _ (List.mem_of_getElem? (i := 77) rfl))) (ty := .long) (by decide)
      have F152_pivotWrites_b152 : Fld Z h152 b152 "com/example/predicate/predicate/engine/FoldedTransactions" "pivotWrites" "J" (.long (0 : Int64)) := D152 (Or.inl (hw _ (List.mem_of_getElem? (i := 162) rfl))) (ty := .long) (by decide)
      show own_Go p.tables e below K (T152.setTop (mkF m 52 #[.val (.long c1), .second, .val (.long c2), .second, .val (.long hz), .second, .val (.long bd), .second, .val (.long po), .second, .val (.int fl), .val (.long aa), .second, .val (.long bb), .second, .val (.int (1 : Int32)), .val (.ref b148), .val (.ref b150), .unset, .unset, .unset, .unset, .unset, .unset] [(.ref b152)]))
      refine own_by (fun t k => XS.dup X152.here hx rfl (hb hby at_52) rfl rfl k) ?_
      show own_Go p.tables e below K (T152.setTop (mkF m 53 #[.val (.long c1), .second, .val (.long c2), .second, .val (.long hz), .second, .val (.long bd), .second, .val (.long po), .second, .val (.int fl), .val (.long aa), .second, .val (.long bb), .second, .val (.int (1 : Int32)), .val (.ref b148), .val (.ref b150), .unset, .unset, .unset, .unset, .unset, .unset] [(.ref b152), (.ref b152)]))
      obtain ⟨_, _, ⟨T153, L153, k153, n153⟩, -, X153, ⟨Lc153, hQ153, l153, y153, z153⟩, st153⟩ := X152.specialBack hx (y := (⟨"com/example/predicate/predicate/engine/FoldedTransactions", "<init>", "()V"⟩ : MethodName)) rfl hown (mvT hZ (hw _ (List.mem_of_getElem? (i := 35) rfl))) (mvT hZ (hw _ (List.mem_of_getElem? (i := 36) rfl))) (mvT hZ (hw _ (List.mem_of_getElem? (i := 37) rfl))) (by decide) (backOf (W := 1) (own_rmftn l Z aw hw [] b152 h152 n0 Z152 A152 gn_b152 F152_tables_b152 F152_pivots_b152 F152_pivotWrites_b152 F152_last_b152) hZ (hw _ (List.mem_of_getElem? (i := 37) rfl)) (hw _ (List.mem_of_getElem? (i := 34) rfl)) (by decide) (by decide)) (g := (mkF m 53 #[.val (.long c1), .second, .val (.long c2), .second, .val (.long hz), .second, .val (.long bd), .second, .val (.long po), .second, .val (.int fl), .val (.long aa), .second, .val (.long bb), .second, .val (.int (1 : Int32)), .val (.ref b148), .val (.ref b150), .unset, .unset, .unset, .unset, .unset, .unset] [(.ref b152), (.ref b152)])) rfl (by rw [hml]; rfl) (Steps.refl _) (a := b152) (argsL := []) (rest := [(.ref b152)]) (lenOf own_pd0 rfl) rfl (by show 2 * 0 + _ ≤ _; exact Nat.le_of_eq rfl) (hb hby at_53) (fun _ _ => ⟨rfl, e152, (by decide : 3 + 3 ≤ _), (by decide : 10 + 28 ≤ _)⟩)
      dsimp only [Pt.U, Pt.locs, Pt.cells, Pt.slots] at X153 l153 y153 z153 st153 hQ153
      subst l153 y153 z153
      obtain ⟨rfl, N153q, Kp153, hm153, dq153, el153, k153c, gh153, gd153, ge153, Bp153⟩ := hQ153
      have N153 := Fr.app N151 N153q
      refine own_by (fun t k => st153.trans k) ?_
      have F153_modCount_b148 := F152_modCount_b148.keep Kp153 (ninS ne_b148_b152 nin0)
      have F153_size_b148 := F152_size_b148.keep Kp153 (ninS ne_b148_b152 nin0)
      have F153_modCount_b150 := F152_modCount_b150.keep Kp153 (ninS ne_b150_b152 nin0)
      have F153_size_b150 := F152_size_b150.keep Kp153 (ninS ne_b150_b152 nin0)
      have Ex153_b148 := Ex152_b148.keep Kp153
      have Ex153_b150 := Ex152_b150.keep Kp153
      have Ex153_b152 := A152.keep Kp153
      have Z153 := Nat.le_trans Z152 Kp153.1
      have O153 := O152.keep Kp153 (allS gn_b152 (all0))
      show own_Go p.tables e below K (T153.setTop (mkF m 56 #[.val (.long c1), .second, .val (.long c2), .second, .val (.long hz), .second, .val (.long bd), .second, .val (.long po), .second, .val (.int fl), .val (.long aa), .second, .val (.long bb), .second, .val (.int (1 : Int32)), .val (.ref b148), .val (.ref b150), .unset, .unset, .unset, .unset, .unset, .unset] [(.ref b152)]))
      refine own_by (fun t k => XS.astore X153.here hx rfl (hb hby at_56) rfl rfl (l' := #[.val (.long c1), .second, .val (.long c2), .second, .val (.long hz), .second, .val (.long bd), .second, .val (.long po), .second, .val (.int fl), .val (.long aa), .second, .val (.long bb), .second, .val (.int (1 : Int32)), .val (.ref b148), .val (.ref b150), .val (.ref b152), .unset, .unset, .unset, .unset, .unset]) rfl k) ?_
      show own_Go p.tables e below K (T153.setTop (mkF m 58 #[.val (.long c1), .second, .val (.long c2), .second, .val (.long hz), .second, .val (.long bd), .second, .val (.long po), .second, .val (.int fl), .val (.long aa), .second, .val (.long bb), .second, .val (.int (1 : Int32)), .val (.ref b148), .val (.ref b150), .val (.ref b152), .unset, .unset, .unset, .unset, .unset] []))
      refine own_by (fun t k => XS.aload X153.here hx rfl (hb hby at_58) rfl rfl k) ?_
      show own_Go p.tables e below K (T153.setTop (mkF m 60 #[.val (.long c1), .second, .val (.long c2), .second, .val (.long hz), .second, .val (.long bd), .second, .val (.long po), .second, .val (.int fl), .val (.long aa), .second, .val (.long bb), .second, .val (.int (1 : Int32)), .val (.ref b148), .val (.ref b150), .val (.ref b152), .unset, .unset, .unset, .unset, .unset] [(.ref b152)]))
      obtain ⟨cq154, kq154, q154a, q154b, q154c⟩ := isOf hZ rfl Bp153.1
      obtain ⟨_, _, ⟨T154, L154, k154, n154⟩, -, X154, ⟨Lc154, hQ154, l154, y154, z154⟩, st154⟩ := X153.virtualBack hx (y := (⟨"com/example/predicate/predicate/engine/FoldedTransactions", "isEmpty", "()Z"⟩ : MethodName)) (z := (⟨"com/example/predicate/predicate/engine/FoldedTransactions", "isEmpty", "()Z"⟩ : MethodName)) hown (mvT hZ (hw _ (List.mem_of_getElem? (i := 71) rfl))) (mvT hZ (hw _ (List.mem_of_getElem? (i := 72) rfl))) (notFace_of_selects (args := #[]) (mvT hZ (hw _ (List.mem_of_getElem? (i := 74) rfl)))) (mvT hZ (hw _ (List.mem_of_getElem? (i := 74) rfl))) (mvT hZ (hw _ (List.mem_of_getElem? (i := 73) rfl))) (by decide) (backOf (W := 0) (own_rmemp l Z aw hw [] b152 (0 : Int64) T153.heap n0 Z153 Bp153.2.2.2.2.1) hZ (hw _ (List.mem_of_getElem? (i := 75) rfl)) (hw _ (List.mem_of_getElem? (i := 34) rfl)) (by decide) (by decide)) q154a q154c (g := (mkF m 60 #[.val (.long c1), .second, .val (.long c2), .second, .val (.long hz), .second, .val (.long bd), .second, .val (.long po), .second, .val (.int fl), .val (.long aa), .second, .val (.long bb), .second, .val (.int (1 : Int32)), .val (.ref b148), .val (.ref b150), .val (.ref b152), .unset, .unset, .unset, .unset, .unset] [(.ref b152)])) rfl (by rw [hml]; rfl) (Steps.refl _) (argsL := []) (rest := []) (lenOf own_pd5 rfl) rfl (by show 2 * 0 + _ ≤ _; exact Nat.le_of_eq rfl) (hb hby at_60) (fun _ _ => ⟨rfl, rfl, (by decide : 6 + 0 ≤ _), (by decide : 38 + 0 ≤ _)⟩)
      dsimp only [Pt.U, Pt.locs, Pt.cells, Pt.slots] at X154 l154 y154 z154 st154 hQ154
      subst l154 y154 z154
      obtain ⟨rfl, N154q, e154⟩ := hQ154
      have N154 := Fr.app N153 N154q
      refine own_by (fun t k => st154.trans k) ?_
      rw [own_emp0]
      show own_Go p.tables e below K (T154.setTop (mkF m 63 #[.val (.long c1), .second, .val (.long c2), .second, .val (.long hz), .second, .val (.long bd), .second, .val (.long po), .second, .val (.int fl), .val (.long aa), .second, .val (.long bb), .second, .val (.int (1 : Int32)), .val (.ref b148), .val (.ref b150), .val (.ref b152), .unset, .unset, .unset, .unset, .unset] [(.int (1 : Int32))]))
      refine own_by (fun t k => XS.istore X154.here hx rfl (hb hby at_63) rfl (l' := #[.val (.long c1), .second, .val (.long c2), .second, .val (.long hz), .second, .val (.long bd), .second, .val (.long po), .second, .val (.int fl), .val (.long aa), .second, .val (.long bb), .second, .val (.int (1 : Int32)), .val (.ref b148), .val (.ref b150), .val (.ref b152), .val (.int (1 : Int32)), .unset, .unset, .unset, .unset]) rfl k) ?_
      show own_Go p.tables e below K (T154.setTop (mkF m 65 #[.val (.long c1), .second, .val (.long c2), .second, .val (.long hz), .second, .val (.long bd), .second, .val (.long po), .second, .val (.int fl), .val (.long aa), .second, .val (.long bb), .second, .val (.int (1 : Int32)), .val (.ref b148), .val (.ref b150), .val (.ref b152), .val (.int (1 : Int32)), .unset, .unset, .unset, .unset] []))
      refine own_by (fun t k => XS.lconst X154.here hx rfl (hb hby at_65) k) ?_
      show own_Go p.tables e below K (T154.setTop (mkF m 66 #[.val (.long c1), .second, .val (.long c2), .second, .val (.long hz), .second, .val (.long bd), .second, .val (.long po), .second, .val (.int fl), .val (.long aa), .second, .val (.long bb), .second, .val (.int (1 : Int32)), .val (.ref b148), .val (.ref b150), .val (.ref b152), .val (.int (1 : Int32)), .unset, .unset, .unset, .unset] [(.long (0 : Int64))]))
      refine own_by (fun t k => XS.lstore X154.here hx rfl (hb hby at_66) rfl (l' := #[.val (.long c1), .second, .val (.long c2), .second, .val (.long hz), .second, .val (.long bd), .second, .val (.long po), .second, .val (.int fl), .val (.long aa), .second, .val (.long bb), .second, .val (.int (1 : Int32)), .val (.ref b148), .val (.ref b150), .val (.ref b152), .val (.int (1 : Int32)), .val (.long (0 : Int64)), .second, .unset, .unset]) rfl k) ?_
      show own_Go p.tables e below K (T154.setTop (mkF m 68 #[.val (.long c1), .second, .val (.long c2), .second, .val (.long hz), .second, .val (.long bd), .second, .val (.long po), .second, .val (.int fl), .val (.long aa), .second, .val (.long bb), .second, .val (.int (1 : Int32)), .val (.ref b148), .val (.ref b150), .val (.ref b152), .val (.int (1 : Int32)), .val (.long (0 : Int64)), .second, .unset, .unset] []))
      refine own_by (fun t k => XS.iload X154.here hx rfl (hb hby at_68) rfl k) ?_
      show own_Go p.tables e below K (T154.setTop (mkF m 70 #[.val (.long c1), .second, .val (.long c2), .second, .val (.long hz), .second, .val (.long bd), .second, .val (.long po), .second, .val (.int fl), .val (.long aa), .second, .val (.long bb), .second, .val (.int (1 : Int32)), .val (.ref b148), .val (.ref b150), .val (.ref b152), .val (.int (1 : Int32)), .val (.long (0 : Int64)), .second, .unset, .unset] [(.int (1 : Int32))]))
      refine own_by (fun t k => XS.iconst X154.here hx rfl (hb hby at_70) k) ?_
      show own_Go p.tables e below K (T154.setTop (mkF m 71 #[.val (.long c1), .second, .val (.long c2), .second, .val (.long hz), .second, .val (.long bd), .second, .val (.long po), .second, .val (.int fl), .val (.long aa), .second, .val (.long bb), .second, .val (.int (1 : Int32)), .val (.ref b148), .val (.ref b150), .val (.ref b152), .val (.int (1 : Int32)), .val (.long (0 : Int64)), .second, .unset, .unset] [(.int (1 : Int32)), (.int (1 : Int32))]))
      have hc71 : ¬ ((1 : Int32) < (1 : Int32)) := by decide
      refine own_by (fun t k => XS.icmpNo X154.here hx rfl (hb hby at_71) rfl (flt hc71).1 k) ?_
      show own_Go p.tables e below K (T154.setTop (mkF m 74 #[.val (.long c1), .second, .val (.long c2), .second, .val (.long hz), .second, .val (.long bd), .second, .val (.long po), .second, .val (.int fl), .val (.long aa), .second, .val (.long bb), .second, .val (.int (1 : Int32)), .val (.ref b148), .val (.ref b150), .val (.ref b152), .val (.int (1 : Int32)), .val (.long (0 : Int64)), .second, .unset, .unset] []))
      refine own_by (fun t k => XS.aload X154.here hx rfl (hb hby at_74) rfl rfl k) ?_
      show own_Go p.tables e below K (T154.setTop (mkF m 76 #[.val (.long c1), .second, .val (.long c2), .second, .val (.long hz), .second, .val (.long bd), .second, .val (.long po), .second, .val (.int fl), .val (.long aa), .second, .val (.long bb), .second, .val (.int (1 : Int32)), .val (.ref b148), .val (.ref b150), .val (.ref b152), .val (.int (1 : Int32)), .val (.long (0 : Int64)), .second, .unset, .unset] [(.ref b152)]))
      refine own_by (fun t k => XS.aload X154.here hx rfl (hb hby at_76) rfl rfl k) ?_
      show own_Go p.tables e below K (T154.setTop (mkF m 78 #[.val (.long c1), .second, .val (.long c2), .second, .val (.long hz), .second, .val (.long bd), .second, .val (.long po), .second, .val (.int fl), .val (.long aa), .second, .val (.long bb), .second, .val (.int (1 : Int32)), .val (.ref b148), .val (.ref b150), .val (.ref b152), .val (.int (1 : Int32)), .val (.long (0 : Int64)), .second, .unset, .unset] [(.ref b148), (.ref b152)]))
      refine own_by (fun t k => XS.aload X154.here hx rfl (hb hby at_78) rfl rfl k) ?_
      show own_Go p.tables e below K (T154.setTop (mkF m 80 #[.val (.long c1), .second, .val (.long c2), .second, .val (.long hz), .second, .val (.long bd), .second, .val (.long po), .second, .val (.int fl), .val (.long aa), .second, .val (.long bb), .second, .val (.int (1 : Int32)), .val (.ref b148), .val (.ref b150), .val (.ref b152), .val (.int (1 : Int32)), .val (.long (0 : Int64)), .second, .unset, .unset] [(.ref b150), (.ref b148), (.ref b152)]))
      refine own_by (fun t k => XS.lload X154.here hx rfl (hb hby at_80) rfl k) ?_
      show own_Go p.tables e below K (T154.setTop (mkF m 82 #[.val (.long c1), .second, .val (.long c2), .second, .val (.long hz), .second, .val (.long bd), .second, .val (.long po), .second, .val (.int fl), .val (.long aa), .second, .val (.long bb), .second, .val (.int (1 : Int32)), .val (.ref b148), .val (.ref b150), .val (.ref b152), .val (.int (1 : Int32)), .val (.long (0 : Int64)), .second, .unset, .unset] [(.long aa), (.ref b150), (.ref b148), (.ref b152)]))
      refine own_by (fun t k => XS.lload X154.here hx rfl (hb hby at_82) rfl k) ?_
      show own_Go p.tables e below K (T154.setTop (mkF m 84 #[.val (.long c1), .second, .val (.long c2), .second, .val (.long hz), .second, .val (.long bd), .second, .val (.long po), .second, .val (.int fl), .val (.long aa), .second, .val (.long bb), .second, .val (.int (1 : Int32)), .val (.ref b148), .val (.ref b150), .val (.ref b152), .val (.int (1 : Int32)), .val (.long (0 : Int64)), .second, .unset, .unset] [(.long bd), (.long aa), (.ref b150), (.ref b148), (.ref b152)]))
      refine own_by (fun t k => XS.lload X154.here hx rfl (hb hby at_84) rfl k) ?_
      show own_Go p.tables e below K (T154.setTop (mkF m 86 #[.val (.long c1), .second, .val (.long c2), .second, .val (.long hz), .second, .val (.long bd), .second, .val (.long po), .second, .val (.int fl), .val (.long aa), .second, .val (.long bb), .second, .val (.int (1 : Int32)), .val (.ref b148), .val (.ref b150), .val (.ref b152), .val (.int (1 : Int32)), .val (.long (0 : Int64)), .second, .unset, .unset] [(.long po), (.long bd), (.long aa), (.ref b150), (.ref b148), (.ref b152)]))
      obtain ⟨cq155, kq155, q155a, q155b, q155c⟩ := isOf hZ e154 Bp153.1
      obtain ⟨_, _, ⟨T155, L155, k155, n155⟩, -, X155, ⟨Lc155, hQ155, l155, y155, z155⟩, st155⟩ := X154.virtualBack hx (y := (⟨"com/example/predicate/predicate/engine/FoldedTransactions", "add", "(Ljava/util/List;Ljava/util/List;JJJ)V"⟩ : MethodName)) (z := (⟨"com/example/predicate/predicate/engine/FoldedTransactions", "add", "(Ljava/util/List;Ljava/util/List;JJJ)V"⟩ : MethodName)) hown (mvT hZ (hw _ (List.mem_of_getElem? (i := 78) rfl))) (mvT hZ (hw _ (List.mem_of_getElem? (i := 79) rfl))) (notFace_of_selects (args := #[]) (mvT hZ (hw _ (List.mem_of_getElem? (i := 81) rfl)))) (mvT hZ (hw _ (List.mem_of_getElem? (i := 81) rfl))) (mvT hZ (hw _ (List.mem_of_getElem? (i := 80) rfl))) (by decide) (backOf (W := 0) (own_rmfadd0 l Z aw hw [] b152 b148 b150 aa bd po hm153 dq153 el153 k153c (0 : Int32) (0 : Int64) T153.heap n0 Z153 Bp153 ⟨Ex153_b148, F153_modCount_b148, F153_size_b148⟩ ⟨Ex153_b150, F153_modCount_b150, F153_size_b150⟩ gn_b152 gh153 gd153 ge153) hZ (hw _ (List.mem_of_getElem? (i := 82) rfl)) (hw _ (List.mem_of_getElem? (i := 34) rfl)) (by decide) (by decide)) q155a q155c (g := (mkF m 86 #[.val (.long c1), .second, .val (.long c2), .second, .val (.long hz), .second, .val (.long bd), .second, .val (.long po), .second, .val (.int fl), .val (.long aa), .second, .val (.long bb), .second, .val (.int (1 : Int32)), .val (.ref b148), .val (.ref b150), .val (.ref b152), .val (.int (1 : Int32)), .val (.long (0 : Int64)), .second, .unset, .unset] [(.long po), (.long bd), (.long aa), (.ref b150), (.ref b148), (.ref b152)])) rfl (by rw [hml]; rfl) (Steps.refl _) (argsL := [(.ref b148), (.ref b150), (.long aa), (.long bd), (.long po)]) (rest := []) (lenOf own_pd13 rfl) rfl (by show 2 * 0 + _ ≤ _; exact Nat.le_of_eq rfl) (hb hby at_86) (fun _ _ => ⟨rfl, e154, (by decide : 6 + 3 ≤ _), (by decide : 38 + 10 ≤ _)⟩)
      dsimp only [Pt.U, Pt.locs, Pt.cells, Pt.slots] at X155 l155 y155 z155 st155 hQ155
      subst l155 y155 z155
      obtain ⟨rfl, N155q, Kp155, Bq155⟩ := hQ155
      have N155 := Fr.app N154 N155q
      refine own_by (fun t k => st155.trans k) ?_
      have F155_modCount_b148 := F153_modCount_b148.keep Kp155 (ninS (Exa.ne Ex153_b148 Bp153.1 (by decide)) (ninS (Exa.ne Ex153_b148 Bp153.2.2.2.2.2.2.1 (by decide)) (ninS (own_Ar.ne Ex153_b148 Bp153.2.2.2.2.2.2.2.2.2.2.1 (hw _ (List.mem_of_getElem? (i := 7) rfl))) nin0)))
      have F155_size_b148 := F153_size_b148.keep Kp155 (ninS (Exa.ne Ex153_b148 Bp153.1 (by decide)) (ninS (Exa.ne Ex153_b148 Bp153.2.2.2.2.2.2.1 (by decide)) (ninS (own_Ar.ne Ex153_b148 Bp153.2.2.2.2.2.2.2.2.2.2.1 (hw _ (List.mem_of_getElem? (i := 7) rfl))) nin0)))
      have F155_modCount_b150 := F153_modCount_b150.keep Kp155 (ninS (Exa.ne Ex153_b150 Bp153.1 (by decide)) (ninS (Exa.ne Ex153_b150 Bp153.2.2.2.2.2.2.1 (by decide)) (ninS (own_Ar.ne Ex153_b150 Bp153.2.2.2.2.2.2.2.2.2.2.1 (hw _ (List.mem_of_getElem? (i := 7) rfl))) nin0)))
      have F155_size_b150 := F153_size_b150.keep Kp155 (ninS (Exa.ne Ex153_b150 Bp153.1 (by decide)) (ninS (Exa.ne Ex153_b150 Bp153.2.2.2.2.2.2.1 (by decide)) (ninS (own_Ar.ne Ex153_b150 Bp153.2.2.2.2.2.2.2.2.2.2.1 (hw _ (List.mem_of_getElem? (i := 7) rfl))) nin0)))
      have Ex155_b148 := Ex153_b148.keep Kp155
      have Ex155_b150 := Ex153_b150.keep Kp155
      have Z155 := Nat.le_trans Z153 Kp155.1
      have O155 := O153.keep Kp155 (allS gn_b152 (allS gd153 (allS ge153 (all0))))
      rw [own_mx0 hpa] at Bq155
      rcases Bq155 with Bq155 | Bq155
      · show own_Go p.tables e below K (T155.setTop (mkF m 89 #[.val (.long c1), .second, .val (.long c2), .second, .val (.long hz), .second, .val (.long bd), .second, .val (.long po), .second, .val (.int fl), .val (.long aa), .second, .val (.long bb), .second, .val (.int (1 : Int32)), .val (.ref b148), .val (.ref b150), .val (.ref b152), .val (.int (1 : Int32)), .val (.long (0 : Int64)), .second, .unset, .unset] []))
        refine own_by (fun t k => XS.lload X155.here hx rfl (hb hby at_89) rfl k) ?_
        show own_Go p.tables e below K (T155.setTop (mkF m 91 #[.val (.long c1), .second, .val (.long c2), .second, .val (.long hz), .second, .val (.long bd), .second, .val (.long po), .second, .val (.int fl), .val (.long aa), .second, .val (.long bb), .second, .val (.int (1 : Int32)), .val (.ref b148), .val (.ref b150), .val (.ref b152), .val (.int (1 : Int32)), .val (.long (0 : Int64)), .second, .unset, .unset] [(.long aa)]))
        refine own_by (fun t k => XS.lstore X155.here hx rfl (hb hby at_91) rfl (l' := #[.val (.long c1), .second, .val (.long c2), .second, .val (.long hz), .second, .val (.long bd), .second, .val (.long po), .second, .val (.int fl), .val (.long aa), .second, .val (.long bb), .second, .val (.int (1 : Int32)), .val (.ref b148), .val (.ref b150), .val (.ref b152), .val (.int (1 : Int32)), .val (.long aa), .second, .unset, .unset]) rfl k) ?_
        show own_Go p.tables e below K (T155.setTop (mkF m 93 #[.val (.long c1), .second, .val (.long c2), .second, .val (.long hz), .second, .val (.long bd), .second, .val (.long po), .second, .val (.int fl), .val (.long aa), .second, .val (.long bb), .second, .val (.int (1 : Int32)), .val (.ref b148), .val (.ref b150), .val (.ref b152), .val (.int (1 : Int32)), .val (.long aa), .second, .unset, .unset] []))
        refine own_by (fun t k => XS.iload X155.here hx rfl (hb hby at_93) rfl k) ?_
        show own_Go p.tables e below K (T155.setTop (mkF m 95 #[.val (.long c1), .second, .val (.long c2), .second, .val (.long hz), .second, .val (.long bd), .second, .val (.long po), .second, .val (.int fl), .val (.long aa), .second, .val (.long bb), .second, .val (.int (1 : Int32)), .val (.ref b148), .val (.ref b150), .val (.ref b152), .val (.int (1 : Int32)), .val (.long aa), .second, .unset, .unset] [(.int (1 : Int32))]))
        refine own_by (fun t k => XS.iconst X155.here hx rfl (hb hby at_95) k) ?_
        show own_Go p.tables e below K (T155.setTop (mkF m 96 #[.val (.long c1), .second, .val (.long c2), .second, .val (.long hz), .second, .val (.long bd), .second, .val (.long po), .second, .val (.int fl), .val (.long aa), .second, .val (.long bb), .second, .val (.int (1 : Int32)), .val (.ref b148), .val (.ref b150), .val (.ref b152), .val (.int (1 : Int32)), .val (.long aa), .second, .unset, .unset] [(.int (2 : Int32)), (.int (1 : Int32))]))
        have hc96 : (1 : Int32) < (2 : Int32) := by decide
        refine own_by (fun t k => XS.icmpYes X155.here hx rfl (pc0 := 96) (pc' := 123) rfl (hb hby at_96) rfl (tlt hc96).1 (by decide) (by decide) k) ?_
        show own_Go p.tables e below K (T155.setTop (mkF m 123 #[.val (.long c1), .second, .val (.long c2), .second, .val (.long hz), .second, .val (.long bd), .second, .val (.long po), .second, .val (.int fl), .val (.long aa), .second, .val (.long bb), .second, .val (.int (1 : Int32)), .val (.ref b148), .val (.ref b150), .val (.ref b152), .val (.int (1 : Int32)), .val (.long aa), .second, .unset, .unset] []))
        refine own_by (fun t k => XS.aload X155.here hx rfl (hb hby at_123) rfl rfl k) ?_
        show own_Go p.tables e below K (T155.setTop (mkF m 125 #[.val (.long c1), .second, .val (.long c2), .second, .val (.long hz), .second, .val (.long bd), .second, .val (.long po), .second, .val (.int fl), .val (.long aa), .second, .val (.long bb), .second, .val (.int (1 : Int32)), .val (.ref b148), .val (.ref b150), .val (.ref b152), .val (.int (1 : Int32)), .val (.long aa), .second, .unset, .unset] [(.ref b152)]))
        obtain ⟨cq156, kq156, q156a, q156b, q156c⟩ := isOf hZ rfl Bq155.1
        obtain ⟨_, _, ⟨T156, L156, k156, n156⟩, -, X156, ⟨Lc156, hQ156, l156, y156, z156⟩, st156⟩ := X155.virtualBack hx (y := (⟨"com/example/predicate/predicate/engine/FoldedTransactions", "isEmpty", "()Z"⟩ : MethodName)) (z := (⟨"com/example/predicate/predicate/engine/FoldedTransactions", "isEmpty", "()Z"⟩ : MethodName)) hown (mvT hZ (hw _ (List.mem_of_getElem? (i := 71) rfl))) (mvT hZ (hw _ (List.mem_of_getElem? (i := 72) rfl))) (notFace_of_selects (args := #[]) (mvT hZ (hw _ (List.mem_of_getElem? (i := 74) rfl)))) (mvT hZ (hw _ (List.mem_of_getElem? (i := 74) rfl))) (mvT hZ (hw _ (List.mem_of_getElem? (i := 73) rfl))) (by decide) (backOf (W := 0) (own_rmemp l Z aw hw [] b152 aa T155.heap n0 Z155 Bq155.2.2.2.2.1) hZ (hw _ (List.mem_of_getElem? (i := 75) rfl)) (hw _ (List.mem_of_getElem? (i := 34) rfl)) (by decide) (by decide)) q156a q156c (g := (mkF m 125 #[.val (.long c1), .second, .val (.long c2), .second, .val (.long hz), .second, .val (.long bd), .second, .val (.long po), .second, .val (.int fl), .val (.long aa), .second, .val (.long bb), .second, .val (.int (1 : Int32)), .val (.ref b148), .val (.ref b150), .val (.ref b152), .val (.int (1 : Int32)), .val (.long aa), .second, .unset, .unset] [(.ref b152)])) rfl (by rw [hml]; rfl) (Steps.refl _) (argsL := []) (rest := []) (lenOf own_pd5 rfl) rfl (by show 2 * 0 + _ ≤ _; exact Nat.le_of_eq rfl) (hb hby at_125) (fun _ _ => ⟨rfl, rfl, (by decide : 9 + 0 ≤ _), (by decide : 48 + 0 ≤ _)⟩)
        dsimp only [Pt.U, Pt.locs, Pt.cells, Pt.slots] at X156 l156 y156 z156 st156 hQ156
        subst l156 y156 z156
        obtain ⟨rfl, N156q, e156⟩ := hQ156
        have N156 := Fr.app N155 N156q
        refine own_by (fun t k => st156.trans k) ?_
        rw [own_empp hpa]
        show own_Go p.tables e below K (T156.setTop (mkF m 128 #[.val (.long c1), .second, .val (.long c2), .second, .val (.long hz), .second, .val (.long bd), .second, .val (.long po), .second, .val (.int fl), .val (.long aa), .second, .val (.long bb), .second, .val (.int (1 : Int32)), .val (.ref b148), .val (.ref b150), .val (.ref b152), .val (.int (1 : Int32)), .val (.long aa), .second, .unset, .unset] [(.int (0 : Int32))]))
        refine own_by (fun t k => XS.istore X156.here hx rfl (hb hby at_128) rfl (l' := #[.val (.long c1), .second, .val (.long c2), .second, .val (.long hz), .second, .val (.long bd), .second, .val (.long po), .second, .val (.int fl), .val (.long aa), .second, .val (.long bb), .second, .val (.int (1 : Int32)), .val (.ref b148), .val (.ref b150), .val (.ref b152), .val (.int (1 : Int32)), .val (.long aa), .second, .val (.int (0 : Int32)), .unset]) rfl k) ?_
        show own_Go p.tables e below K (T156.setTop (mkF m 130 #[.val (.long c1), .second, .val (.long c2), .second, .val (.long hz), .second, .val (.long bd), .second, .val (.long po), .second, .val (.int fl), .val (.long aa), .second, .val (.long bb), .second, .val (.int (1 : Int32)), .val (.ref b148), .val (.ref b150), .val (.ref b152), .val (.int (1 : Int32)), .val (.long aa), .second, .val (.int (0 : Int32)), .unset] []))
        refine own_by (fun t k => XS.aload X156.here hx rfl (hb hby at_130) rfl rfl k) ?_
        show own_Go p.tables e below K (T156.setTop (mkF m 132 #[.val (.long c1), .second, .val (.long c2), .second, .val (.long hz), .second, .val (.long bd), .second, .val (.long po), .second, .val (.int fl), .val (.long aa), .second, .val (.long bb), .second, .val (.int (1 : Int32)), .val (.ref b148), .val (.ref b150), .val (.ref b152), .val (.int (1 : Int32)), .val (.long aa), .second, .val (.int (0 : Int32)), .unset] [(.ref b152)]))
        refine own_by (fun t k => XS.lload X156.here hx rfl (hb hby at_132) rfl k) ?_
        show own_Go p.tables e below K (T156.setTop (mkF m 134 #[.val (.long c1), .second, .val (.long c2), .second, .val (.long hz), .second, .val (.long bd), .second, .val (.long po), .second, .val (.int fl), .val (.long aa), .second, .val (.long bb), .second, .val (.int (1 : Int32)), .val (.ref b148), .val (.ref b150), .val (.ref b152), .val (.int (1 : Int32)), .val (.long aa), .second, .val (.int (0 : Int32)), .unset] [(.long hz), (.ref b152)]))
        obtain ⟨cq157, kq157, q157a, q157b, q157c⟩ := isOf hZ e156 Bq155.1
        obtain ⟨_, _, ⟨T157, L157, k157, n157⟩, -, X157, ⟨Lc157, hQ157, l157, y157, z157⟩, st157⟩ := X156.virtualBack hx (y := (⟨"com/example/predicate/predicate/engine/FoldedTransactions", "forgetSeenWithin", "(J)V"⟩ : MethodName)) (z := (⟨"com/example/predicate/predicate/engine/FoldedTransactions", "forgetSeenWithin", "(J)V"⟩ : MethodName)) hown (mvT hZ (hw _ (List.mem_of_getElem? (i := 173) rfl))) (mvT hZ (hw _ (List.mem_of_getElem? (i := 174) rfl))) (notFace_of_selects (args := #[]) (mvT hZ (hw _ (List.mem_of_getElem? (i := 176) rfl)))) (mvT hZ (hw _ (List.mem_of_getElem? (i := 176) rfl))) (mvT hZ (hw _ (List.mem_of_getElem? (i := 175) rfl))) (by decide) (backOf (W := 0) (own_rmfgt0 l Z aw hw [] b152 hz hm153 dq153 el153 k153c (0 : Int32) aa T155.heap n0 Z155 Bq155 gn_b152 gh153 gd153 ge153) hZ (hw _ (List.mem_of_getElem? (i := 177) rfl)) (hw _ (List.mem_of_getElem? (i := 34) rfl)) (by decide) (by decide)) q157a q157c (g := (mkF m 134 #[.val (.long c1), .second, .val (.long c2), .second, .val (.long hz), .second, .val (.long bd), .second, .val (.long po), .second, .val (.int fl), .val (.long aa), .second, .val (.long bb), .second, .val (.int (1 : Int32)), .val (.ref b148), .val (.ref b150), .val (.ref b152), .val (.int (1 : Int32)), .val (.long aa), .second, .val (.int (0 : Int32)), .unset] [(.long hz), (.ref b152)])) rfl (by rw [hml]; rfl) (Steps.refl _) (argsL := [(.long hz)]) (rest := []) (lenOf own_pd12 rfl) rfl (by show 2 * 0 + _ ≤ _; exact Nat.le_of_eq rfl) (hb hby at_134) (fun _ _ => ⟨rfl, e156, (by decide : 9 + 0 ≤ _), (by decide : 48 + 0 ≤ _)⟩)
        dsimp only [Pt.U, Pt.locs, Pt.cells, Pt.slots] at X157 l157 y157 z157 st157 hQ157
        subst l157 y157 z157
        obtain ⟨rfl, N157q, Xp157, Lp157⟩ := hQ157
        have N157 := Fr.app N156 N157q
        refine own_by (fun t k => st157.trans k) ?_
        have Zq157 : n0 ≤ T157.heap.size := Nat.le_of_lt (Nat.lt_of_le_of_lt gn_b152 Xp157.lt)
        show own_Go p.tables e below K (T157.setTop (mkF m 137 #[.val (.long c1), .second, .val (.long c2), .second, .val (.long hz), .second, .val (.long bd), .second, .val (.long po), .second, .val (.int fl), .val (.long aa), .second, .val (.long bb), .second, .val (.int (1 : Int32)), .val (.ref b148), .val (.ref b150), .val (.ref b152), .val (.int (1 : Int32)), .val (.long aa), .second, .val (.int (0 : Int32)), .unset] []))
        refine own_by (fun t k => XS.aload X157.here hx rfl (hb hby at_137) rfl rfl k) ?_
        show own_Go p.tables e below K (T157.setTop (mkF m 139 #[.val (.long c1), .second, .val (.long c2), .second, .val (.long hz), .second, .val (.long bd), .second, .val (.long po), .second, .val (.int fl), .val (.long aa), .second, .val (.long bb), .second, .val (.int (1 : Int32)), .val (.ref b148), .val (.ref b150), .val (.ref b152), .val (.int (1 : Int32)), .val (.long aa), .second, .val (.int (0 : Int32)), .unset] [(.ref b152)]))
        obtain ⟨cq158, kq158, q158a, q158b, q158c⟩ := isOf hZ rfl Xp157
        obtain ⟨_, _, ⟨T158, L158, k158, n158⟩, -, X158, ⟨Lc158, hQ158, l158, y158, z158⟩, st158⟩ := X157.virtualBack hx (y := (⟨"com/example/predicate/predicate/engine/FoldedTransactions", "isEmpty", "()Z"⟩ : MethodName)) (z := (⟨"com/example/predicate/predicate/engine/FoldedTransactions", "isEmpty", "()Z"⟩ : MethodName)) hown (mvT hZ (hw _ (List.mem_of_getElem? (i := 71) rfl))) (mvT hZ (hw _ (List.mem_of_getElem? (i := 72) rfl))) (notFace_of_selects (args := #[]) (mvT hZ (hw _ (List.mem_of_getElem? (i := 74) rfl)))) (mvT hZ (hw _ (List.mem_of_getElem? (i := 74) rfl))) (mvT hZ (hw _ (List.mem_of_getElem? (i := 73) rfl))) (by decide) (backOf (W := 0) (own_rmemp l Z aw hw [] b152 (own_fgt aa hz) T157.heap n0 Zq157 Lp157) hZ (hw _ (List.mem_of_getElem? (i := 75) rfl)) (hw _ (List.mem_of_getElem? (i := 34) rfl)) (by decide) (by decide)) q158a q158c (g := (mkF m 139 #[.val (.long c1), .second, .val (.long c2), .second, .val (.long hz), .second, .val (.long bd), .second, .val (.long po), .second, .val (.int fl), .val (.long aa), .second, .val (.long bb), .second, .val (.int (1 : Int32)), .val (.ref b148), .val (.ref b150), .val (.ref b152), .val (.int (1 : Int32)), .val (.long aa), .second, .val (.int (0 : Int32)), .unset] [(.ref b152)])) rfl (by rw [hml]; rfl) (Steps.refl _) (argsL := []) (rest := []) (lenOf own_pd5 rfl) rfl (by show 2 * 0 + _ ≤ _; exact Nat.le_of_eq rfl) (hb hby at_139) (fun _ _ => ⟨rfl, rfl, (by decide : 9 + 0 ≤ _), (by decide : 48 + 0 ≤ _)⟩)
        dsimp only [Pt.U, Pt.locs, Pt.cells, Pt.slots] at X158 l158 y158 z158 st158 hQ158
        subst l158 y158 z158
        obtain ⟨rfl, N158q, e158⟩ := hQ158
        have N158 := Fr.app N157 N158q
        refine own_by (fun t k => st158.trans k) ?_
        show own_Go p.tables e below K (T158.setTop (mkF m 142 #[.val (.long c1), .second, .val (.long c2), .second, .val (.long hz), .second, .val (.long bd), .second, .val (.long po), .second, .val (.int fl), .val (.long aa), .second, .val (.long bb), .second, .val (.int (1 : Int32)), .val (.ref b148), .val (.ref b150), .val (.ref b152), .val (.int (1 : Int32)), .val (.long aa), .second, .val (.int (0 : Int32)), .unset] [(.int (own_emp (own_fgt aa hz)))]))
        refine own_by (fun t k => XS.istore X158.here hx rfl (hb hby at_142) rfl (l' := #[.val (.long c1), .second, .val (.long c2), .second, .val (.long hz), .second, .val (.long bd), .second, .val (.long po), .second, .val (.int fl), .val (.long aa), .second, .val (.long bb), .second, .val (.int (1 : Int32)), .val (.ref b148), .val (.ref b150), .val (.ref b152), .val (.int (1 : Int32)), .val (.long aa), .second, .val (.int (0 : Int32)), .val (.int (own_emp (own_fgt aa hz)))]) rfl k) ?_
        show own_Go p.tables e below K (T158.setTop (mkF m 144 #[.val (.long c1), .second, .val (.long c2), .second, .val (.long hz), .second, .val (.long bd), .second, .val (.long po), .second, .val (.int fl), .val (.long aa), .second, .val (.long bb), .second, .val (.int (1 : Int32)), .val (.ref b148), .val (.ref b150), .val (.ref b152), .val (.int (1 : Int32)), .val (.long aa), .second, .val (.int (0 : Int32)), .val (.int (own_emp (own_fgt aa hz)))] []))
        refine own_by (fun t k => XS.iload X158.here hx rfl (hb hby at_144) rfl k) ?_
        show own_Go p.tables e below K (T158.setTop (mkF m 146 #[.val (.long c1), .second, .val (.long c2), .second, .val (.long hz), .second, .val (.long bd), .second, .val (.long po), .second, .val (.int fl), .val (.long aa), .second, .val (.long bb), .second, .val (.int (1 : Int32)), .val (.ref b148), .val (.ref b150), .val (.ref b152), .val (.int (1 : Int32)), .val (.long aa), .second, .val (.int (0 : Int32)), .val (.int (own_emp (own_fgt aa hz)))] [(.int (1 : Int32))]))
        have hc146 : ¬ ((1 : Int32) = (0 : Int32)) := by decide
        refine own_by (fun t k => XS.ifNo X158.here hx rfl (hb hby at_146) rfl ((if0 _ _).trans (feq hc146).1) k) ?_
        show own_Go p.tables e below K (T158.setTop (mkF m 149 #[.val (.long c1), .second, .val (.long c2), .second, .val (.long hz), .second, .val (.long bd), .second, .val (.long po), .second, .val (.int fl), .val (.long aa), .second, .val (.long bb), .second, .val (.int (1 : Int32)), .val (.ref b148), .val (.ref b150), .val (.ref b152), .val (.int (1 : Int32)), .val (.long aa), .second, .val (.int (0 : Int32)), .val (.int (own_emp (own_fgt aa hz)))] []))
        refine own_by (fun t k => XS.iload X158.here hx rfl (hb hby at_149) rfl k) ?_
        show own_Go p.tables e below K (T158.setTop (mkF m 151 #[.val (.long c1), .second, .val (.long c2), .second, .val (.long hz), .second, .val (.long bd), .second, .val (.long po), .second, .val (.int fl), .val (.long aa), .second, .val (.long bb), .second, .val (.int (1 : Int32)), .val (.ref b148), .val (.ref b150), .val (.ref b152), .val (.int (1 : Int32)), .val (.long aa), .second, .val (.int (0 : Int32)), .val (.int (own_emp (own_fgt aa hz)))] [(.int (0 : Int32))]))
        refine own_by (fun t k => XS.iload X158.here hx rfl (hb hby at_151) rfl k) ?_
        show own_Go p.tables e below K (T158.setTop (mkF m 153 #[.val (.long c1), .second, .val (.long c2), .second, .val (.long hz), .second, .val (.long bd), .second, .val (.long po), .second, .val (.int fl), .val (.long aa), .second, .val (.long bb), .second, .val (.int (1 : Int32)), .val (.ref b148), .val (.ref b150), .val (.ref b152), .val (.int (1 : Int32)), .val (.long aa), .second, .val (.int (0 : Int32)), .val (.int (own_emp (own_fgt aa hz)))] [(.int (1 : Int32)), (.int (0 : Int32))]))
        have hc153 : ¬ ((1 : Int32) = (0 : Int32)) := by decide
        refine own_by (fun t k => XS.ifYes X158.here hx rfl (pc0 := 153) (pc' := 160) rfl (hb hby at_153) rfl ((if0 _ _).trans (feq hc153).2) (by decide) (by decide) k) ?_
        show own_Go p.tables e below K (T158.setTop (mkF m 160 #[.val (.long c1), .second, .val (.long c2), .second, .val (.long hz), .second, .val (.long bd), .second, .val (.long po), .second, .val (.int fl), .val (.long aa), .second, .val (.long bb), .second, .val (.int (1 : Int32)), .val (.ref b148), .val (.ref b150), .val (.ref b152), .val (.int (1 : Int32)), .val (.long aa), .second, .val (.int (0 : Int32)), .val (.int (own_emp (own_fgt aa hz)))] [(.int (0 : Int32))]))
        refine own_by (fun t k => XS.iconst X158.here hx rfl (hb hby at_160) k) ?_
        show own_Go p.tables e below K (T158.setTop (mkF m 161 #[.val (.long c1), .second, .val (.long c2), .second, .val (.long hz), .second, .val (.long bd), .second, .val (.long po), .second, .val (.int fl), .val (.long aa), .second, .val (.long bb), .second, .val (.int (1 : Int32)), .val (.ref b148), .val (.ref b150), .val (.ref b152), .val (.int (1 : Int32)), .val (.long aa), .second, .val (.int (0 : Int32)), .val (.int (own_emp (own_fgt aa hz)))] [(.int (0 : Int32)), (.int (0 : Int32))]))
        have hc161 : (0 : Int32) = (0 : Int32) := by decide
        refine own_by (fun t k => XS.icmpNo X158.here hx rfl (hb hby at_161) rfl (teq hc161).2 k) ?_
        show own_Go p.tables e below K (T158.setTop (mkF m 164 #[.val (.long c1), .second, .val (.long c2), .second, .val (.long hz), .second, .val (.long bd), .second, .val (.long po), .second, .val (.int fl), .val (.long aa), .second, .val (.long bb), .second, .val (.int (1 : Int32)), .val (.ref b148), .val (.ref b150), .val (.ref b152), .val (.int (1 : Int32)), .val (.long aa), .second, .val (.int (0 : Int32)), .val (.int (own_emp (own_fgt aa hz)))] []))
        refine own_by (fun t k => XS.iload X158.here hx rfl (hb hby at_164) rfl k) ?_
        show own_Go p.tables e below K (T158.setTop (mkF m 166 #[.val (.long c1), .second, .val (.long c2), .second, .val (.long hz), .second, .val (.long bd), .second, .val (.long po), .second, .val (.int fl), .val (.long aa), .second, .val (.long bb), .second, .val (.int (1 : Int32)), .val (.ref b148), .val (.ref b150), .val (.ref b152), .val (.int (1 : Int32)), .val (.long aa), .second, .val (.int (0 : Int32)), .val (.int (own_emp (own_fgt aa hz)))] [(.int (own_emp (own_fgt aa hz)))]))
        refine own_by (fun t k => XS.iload X158.here hx rfl (hb hby at_166) rfl k) ?_
        show own_Go p.tables e below K (T158.setTop (mkF m 168 #[.val (.long c1), .second, .val (.long c2), .second, .val (.long hz), .second, .val (.long bd), .second, .val (.long po), .second, .val (.int fl), .val (.long aa), .second, .val (.long bb), .second, .val (.int (1 : Int32)), .val (.ref b148), .val (.ref b150), .val (.ref b152), .val (.int (1 : Int32)), .val (.long aa), .second, .val (.int (0 : Int32)), .val (.int (own_emp (own_fgt aa hz)))] [(.int (1 : Int32)), (.int (own_emp (own_fgt aa hz)))]))
        have hc168 : ¬ ((1 : Int32) = (0 : Int32)) := by decide
        refine own_by (fun t k => XS.ifNo X158.here hx rfl (hb hby at_168) rfl ((if0 _ _).trans (feq hc168).1) k) ?_
        show own_Go p.tables e below K (T158.setTop (mkF m 171 #[.val (.long c1), .second, .val (.long c2), .second, .val (.long hz), .second, .val (.long bd), .second, .val (.long po), .second, .val (.int fl), .val (.long aa), .second, .val (.long bb), .second, .val (.int (1 : Int32)), .val (.ref b148), .val (.ref b150), .val (.ref b152), .val (.int (1 : Int32)), .val (.long aa), .second, .val (.int (0 : Int32)), .val (.int (own_emp (own_fgt aa hz)))] [(.int (own_emp (own_fgt aa hz)))]))
        refine own_by (fun t k => XS.lload X158.here hx rfl (hb hby at_171) rfl k) ?_
        show own_Go p.tables e below K (T158.setTop (mkF m 173 #[.val (.long c1), .second, .val (.long c2), .second, .val (.long hz), .second, .val (.long bd), .second, .val (.long po), .second, .val (.int fl), .val (.long aa), .second, .val (.long bb), .second, .val (.int (1 : Int32)), .val (.ref b148), .val (.ref b150), .val (.ref b152), .val (.int (1 : Int32)), .val (.long aa), .second, .val (.int (0 : Int32)), .val (.int (own_emp (own_fgt aa hz)))] [(.long aa), (.int (own_emp (own_fgt aa hz)))]))
        refine own_by (fun t k => XS.lload X158.here hx rfl (hb hby at_173) rfl k) ?_
        show own_Go p.tables e below K (T158.setTop (mkF m 175 #[.val (.long c1), .second, .val (.long c2), .second, .val (.long hz), .second, .val (.long bd), .second, .val (.long po), .second, .val (.int fl), .val (.long aa), .second, .val (.long bb), .second, .val (.int (1 : Int32)), .val (.ref b148), .val (.ref b150), .val (.ref b152), .val (.int (1 : Int32)), .val (.long aa), .second, .val (.int (0 : Int32)), .val (.int (own_emp (own_fgt aa hz)))] [(.long hz), (.long aa), (.int (own_emp (own_fgt aa hz)))]))
        refine own_by (fun t k => XS.lcmp X158.here hx rfl (hb hby at_175) rfl k) ?_
        show own_Go p.tables e below K (T158.setTop (mkF m 176 #[.val (.long c1), .second, .val (.long c2), .second, .val (.long hz), .second, .val (.long bd), .second, .val (.long po), .second, .val (.int fl), .val (.long aa), .second, .val (.long bb), .second, .val (.int (1 : Int32)), .val (.ref b148), .val (.ref b150), .val (.ref b152), .val (.int (1 : Int32)), .val (.long aa), .second, .val (.int (0 : Int32)), .val (.int (own_emp (own_fgt aa hz)))] [(.int (lcmpW aa hz)), (.int (own_emp (own_fgt aa hz)))]))
        by_cases hc176 : hz < aa
        · refine own_by (fun t k => XS.ifYes X158.here hx rfl (pc0 := 176) (pc' := 183) rfl (hb hby at_176) rfl (own_lgt hc176).1 (by decide) (by decide) k) ?_
          show own_Go p.tables e below K (T158.setTop (mkF m 183 #[.val (.long c1), .second, .val (.long c2), .second, .val (.long hz), .second, .val (.long bd), .second, .val (.long po), .second, .val (.int fl), .val (.long aa), .second, .val (.long bb), .second, .val (.int (1 : Int32)), .val (.ref b148), .val (.ref b150), .val (.ref b152), .val (.int (1 : Int32)), .val (.long aa), .second, .val (.int (0 : Int32)), .val (.int (own_emp (own_fgt aa hz)))] [(.int (own_emp (own_fgt aa hz)))]))
          refine own_by (fun t k => XS.iconst X158.here hx rfl (hb hby at_183) k) ?_
          show own_Go p.tables e below K (T158.setTop (mkF m 184 #[.val (.long c1), .second, .val (.long c2), .second, .val (.long hz), .second, .val (.long bd), .second, .val (.long po), .second, .val (.int fl), .val (.long aa), .second, .val (.long bb), .second, .val (.int (1 : Int32)), .val (.ref b148), .val (.ref b150), .val (.ref b152), .val (.int (1 : Int32)), .val (.long aa), .second, .val (.int (0 : Int32)), .val (.int (own_emp (own_fgt aa hz)))] [(.int (0 : Int32)), (.int (own_emp (own_fgt aa hz)))]))
          have hc184 : (own_emp (own_fgt aa hz)) = (0 : Int32) := by rw [own_e2 hpa, if_pos hc176]
          refine own_by (fun t k => XS.icmpNo X158.here hx rfl (hb hby at_184) rfl (teq hc184).2 k) ?_
          show own_Go p.tables e below K (T158.setTop (mkF m 187 #[.val (.long c1), .second, .val (.long c2), .second, .val (.long hz), .second, .val (.long bd), .second, .val (.long po), .second, .val (.int fl), .val (.long aa), .second, .val (.long bb), .second, .val (.int (1 : Int32)), .val (.ref b148), .val (.ref b150), .val (.ref b152), .val (.int (1 : Int32)), .val (.long aa), .second, .val (.int (0 : Int32)), .val (.int (own_emp (own_fgt aa hz)))] []))
          refine own_by (fun t k => XS.iconst X158.here hx rfl (hb hby at_187) k) ?_
          show own_Go p.tables e below K (T158.setTop (mkF m 188 #[.val (.long c1), .second, .val (.long c2), .second, .val (.long hz), .second, .val (.long bd), .second, .val (.long po), .second, .val (.int fl), .val (.long aa), .second, .val (.long bb), .second, .val (.int (1 : Int32)), .val (.ref b148), .val (.ref b150), .val (.ref b152), .val (.int (1 : Int32)), .val (.long aa), .second, .val (.int (0 : Int32)), .val (.int (own_emp (own_fgt aa hz)))] [(.int (1 : Int32))]))
          refine own_by (fun t k => XS.goto X158.here hx rfl (pc0 := 188) (pc' := 192) rfl (hb hby at_188) (by decide) (by decide) k) ?_
          show own_Go p.tables e below K (T158.setTop (mkF m 192 #[.val (.long c1), .second, .val (.long c2), .second, .val (.long hz), .second, .val (.long bd), .second, .val (.long po), .second, .val (.int fl), .val (.long aa), .second, .val (.long bb), .second, .val (.int (1 : Int32)), .val (.ref b148), .val (.ref b150), .val (.ref b152), .val (.int (1 : Int32)), .val (.long aa), .second, .val (.int (0 : Int32)), .val (.int (own_emp (own_fgt aa hz)))] [(.int (1 : Int32))]))
          exact own_retZ X158 hx (t := .boolean) hret (by simp) (hb hby at_192) (hK (some (.int (1 : Int32))) X158 (fun h => by rw [hret] at h; cases h) (⟨rfl, N158⟩) (by decide) (by decide))
        · refine own_by (fun t k => XS.ifNo X158.here hx rfl (hb hby at_176) rfl (own_lle hc176).1 k) ?_
          show own_Go p.tables e below K (T158.setTop (mkF m 179 #[.val (.long c1), .second, .val (.long c2), .second, .val (.long hz), .second, .val (.long bd), .second, .val (.long po), .second, .val (.int fl), .val (.long aa), .second, .val (.long bb), .second, .val (.int (1 : Int32)), .val (.ref b148), .val (.ref b150), .val (.ref b152), .val (.int (1 : Int32)), .val (.long aa), .second, .val (.int (0 : Int32)), .val (.int (own_emp (own_fgt aa hz)))] [(.int (own_emp (own_fgt aa hz)))]))
          refine own_by (fun t k => XS.iconst X158.here hx rfl (hb hby at_179) k) ?_
          show own_Go p.tables e below K (T158.setTop (mkF m 180 #[.val (.long c1), .second, .val (.long c2), .second, .val (.long hz), .second, .val (.long bd), .second, .val (.long po), .second, .val (.int fl), .val (.long aa), .second, .val (.long bb), .second, .val (.int (1 : Int32)), .val (.ref b148), .val (.ref b150), .val (.ref b152), .val (.int (1 : Int32)), .val (.long aa), .second, .val (.int (0 : Int32)), .val (.int (own_emp (own_fgt aa hz)))] [(.int (1 : Int32)), (.int (own_emp (own_fgt aa hz)))]))
          refine own_by (fun t k => XS.goto X158.here hx rfl (pc0 := 180) (pc' := 184) rfl (hb hby at_180) (by decide) (by decide) k) ?_
          show own_Go p.tables e below K (T158.setTop (mkF m 184 #[.val (.long c1), .second, .val (.long c2), .second, .val (.long hz), .second, .val (.long bd), .second, .val (.long po), .second, .val (.int fl), .val (.long aa), .second, .val (.long bb), .second, .val (.int (1 : Int32)), .val (.ref b148), .val (.ref b150), .val (.ref b152), .val (.int (1 : Int32)), .val (.long aa), .second, .val (.int (0 : Int32)), .val (.int (own_emp (own_fgt aa hz)))] [(.int (1 : Int32)), (.int (own_emp (own_fgt aa hz)))]))
          have hc184 : (own_emp (own_fgt aa hz)) = (1 : Int32) := by rw [own_e2 hpa, if_neg hc176]
          refine own_by (fun t k => XS.icmpNo X158.here hx rfl (hb hby at_184) rfl (teq hc184).2 k) ?_
          show own_Go p.tables e below K (T158.setTop (mkF m 187 #[.val (.long c1), .second, .val (.long c2), .second, .val (.long hz), .second, .val (.long bd), .second, .val (.long po), .second, .val (.int fl), .val (.long aa), .second, .val (.long bb), .second, .val (.int (1 : Int32)), .val (.ref b148), .val (.ref b150), .val (.ref b152), .val (.int (1 : Int32)), .val (.long aa), .second, .val (.int (0 : Int32)), .val (.int (own_emp (own_fgt aa hz)))] []))
          refine own_by (fun t k => XS.iconst X158.here hx rfl (hb hby at_187) k) ?_
          show own_Go p.tables e below K (T158.setTop (mkF m 188 #[.val (.long c1), .second, .val (.long c2), .second, .val (.long hz), .second, .val (.long bd), .second, .val (.long po), .second, .val (.int fl), .val (.long aa), .second, .val (.long bb), .second, .val (.int (1 : Int32)), .val (.ref b148), .val (.ref b150), .val (.ref b152), .val (.int (1 : Int32)), .val (.long aa), .second, .val (.int (0 : Int32)), .val (.int (own_emp (own_fgt aa hz)))] [(.int (1 : Int32))]))
          refine own_by (fun t k => XS.goto X158.here hx rfl (pc0 := 188) (pc' := 192) rfl (hb hby at_188) (by decide) (by decide) k) ?_
          show own_Go p.tables e below K (T158.setTop (mkF m 192 #[.val (.long c1), .second, .val (.long c2), .second, .val (.long hz), .second, .val (.long bd), .second, .val (.long po), .second, .val (.int fl), .val (.long aa), .second, .val (.long bb), .second, .val (.int (1 : Int32)), .val (.ref b148), .val (.ref b150), .val (.ref b152), .val (.int (1 : Int32)), .val (.long aa), .second, .val (.int (0 : Int32)), .val (.int (own_emp (own_fgt aa hz)))] [(.int (1 : Int32))]))
          exact own_retZ X158 hx (t := .boolean) hret (by simp) (hb hby at_192) (hK (some (.int (1 : Int32))) X158 (fun h => by rw [hret] at h; cases h) (⟨rfl, N158⟩) (by decide) (by decide))
      · show own_Go p.tables e below K (T155.setTop (mkF m 89 #[.val (.long c1), .second, .val (.long c2), .second, .val (.long hz), .second, .val (.long bd), .second, .val (.long po), .second, .val (.int fl), .val (.long aa), .second, .val (.long bb), .second, .val (.int (1 : Int32)), .val (.ref b148), .val (.ref b150), .val (.ref b152), .val (.int (1 : Int32)), .val (.long (0 : Int64)), .second, .unset, .unset] []))
        refine own_by (fun t k => XS.lload X155.here hx rfl (hb hby at_89) rfl k) ?_
        show own_Go p.tables e below K (T155.setTop (mkF m 91 #[.val (.long c1), .second, .val (.long c2), .second, .val (.long hz), .second, .val (.long bd), .second, .val (.long po), .second, .val (.int fl), .val (.long aa), .second, .val (.long bb), .second, .val (.int (1 : Int32)), .val (.ref b148), .val (.ref b150), .val (.ref b152), .val (.int (1 : Int32)), .val (.long (0 : Int64)), .second, .unset, .unset] [(.long aa)]))
        refine own_by (fun t k => XS.lstore X155.here hx rfl (hb hby at_91) rfl (l' := #[.val (.long c1), .second, .val (.long c2), .second, .val (.long hz), .second, .val (.long bd), .second, .val (.long po), .second, .val (.int fl), .val (.long aa), .second, .val (.long bb), .second, .val (.int (1 : Int32)), .val (.ref b148), .val (.ref b150), .val (.ref b152), .val (.int (1 : Int32)), .val (.long aa), .second, .unset, .unset]) rfl k) ?_
        show own_Go p.tables e below K (T155.setTop (mkF m 93 #[.val (.long c1), .second, .val (.long c2), .second, .val (.long hz), .second, .val (.long bd), .second, .val (.long po), .second, .val (.int fl), .val (.long aa), .second, .val (.long bb), .second, .val (.int (1 : Int32)), .val (.ref b148), .val (.ref b150), .val (.ref b152), .val (.int (1 : Int32)), .val (.long aa), .second, .unset, .unset] []))
        refine own_by (fun t k => XS.iload X155.here hx rfl (hb hby at_93) rfl k) ?_
        show own_Go p.tables e below K (T155.setTop (mkF m 95 #[.val (.long c1), .second, .val (.long c2), .second, .val (.long hz), .second, .val (.long bd), .second, .val (.long po), .second, .val (.int fl), .val (.long aa), .second, .val (.long bb), .second, .val (.int (1 : Int32)), .val (.ref b148), .val (.ref b150), .val (.ref b152), .val (.int (1 : Int32)), .val (.long aa), .second, .unset, .unset] [(.int (1 : Int32))]))
        refine own_by (fun t k => XS.iconst X155.here hx rfl (hb hby at_95) k) ?_
        show own_Go p.tables e below K (T155.setTop (mkF m 96 #[.val (.long c1), .second, .val (.long c2), .second, .val (.long hz), .second, .val (.long bd), .second, .val (.long po), .second, .val (.int fl), .val (.long aa), .second, .val (.long bb), .second, .val (.int (1 : Int32)), .val (.ref b148), .val (.ref b150), .val (.ref b152), .val (.int (1 : Int32)), .val (.long aa), .second, .unset, .unset] [(.int (2 : Int32)), (.int (1 : Int32))]))
        have hc96 : (1 : Int32) < (2 : Int32) := by decide
        refine own_by (fun t k => XS.icmpYes X155.here hx rfl (pc0 := 96) (pc' := 123) rfl (hb hby at_96) rfl (tlt hc96).1 (by decide) (by decide) k) ?_
        show own_Go p.tables e below K (T155.setTop (mkF m 123 #[.val (.long c1), .second, .val (.long c2), .second, .val (.long hz), .second, .val (.long bd), .second, .val (.long po), .second, .val (.int fl), .val (.long aa), .second, .val (.long bb), .second, .val (.int (1 : Int32)), .val (.ref b148), .val (.ref b150), .val (.ref b152), .val (.int (1 : Int32)), .val (.long aa), .second, .unset, .unset] []))
        refine own_by (fun t k => XS.aload X155.here hx rfl (hb hby at_123) rfl rfl k) ?_
        show own_Go p.tables e below K (T155.setTop (mkF m 125 #[.val (.long c1), .second, .val (.long c2), .second, .val (.long hz), .second, .val (.long bd), .second, .val (.long po), .second, .val (.int fl), .val (.long aa), .second, .val (.long bb), .second, .val (.int (1 : Int32)), .val (.ref b148), .val (.ref b150), .val (.ref b152), .val (.int (1 : Int32)), .val (.long aa), .second, .unset, .unset] [(.ref b152)]))
        obtain ⟨cq159, kq159, q159a, q159b, q159c⟩ := isOf hZ rfl Bq155.1
        obtain ⟨_, _, ⟨T159, L159, k159, n159⟩, -, X159, ⟨Lc159, hQ159, l159, y159, z159⟩, st159⟩ := X155.virtualBack hx (y := (⟨"com/example/predicate/predicate/engine/FoldedTransactions", "isEmpty", "()Z"⟩ : MethodName)) (z := (⟨"com/example/predicate/predicate/engine/FoldedTransactions", "isEmpty", "()Z"⟩ : MethodName)) hown (mvT hZ (hw _ (List.mem_of_getElem? (i := 71) rfl))) (mvT hZ (hw _ (List.mem_of_getElem? (i := 72) rfl))) (notFace_of_selects (args := #[]) (mvT hZ (hw _ (List.mem_of_getElem? (i := 74) rfl)))) (mvT hZ (hw _ (List.mem_of_getElem? (i := 74) rfl))) (mvT hZ (hw _ (List.mem_of_getElem? (i := 73) rfl))) (by decide) (backOf (W := 0) (own_rmemp l Z aw hw [] b152 aa T155.heap n0 Z155 Bq155.2.2.2.2.1) hZ (hw _ (List.mem_of_getElem? (i := 75) rfl)) (hw _ (List.mem_of_getElem? (i := 34) rfl)) (by decide) (by decide)) q159a q159c (g := (mkF m 125 #[.val (.long c1), .second, .val (.long c2), .second, .val (.long hz), .second, .val (.long bd), .second, .val (.long po), .second, .val (.int fl), .val (.long aa), .second, .val (.long bb), .second, .val (.int (1 : Int32)), .val (.ref b148), .val (.ref b150), .val (.ref b152), .val (.int (1 : Int32)), .val (.long aa), .second, .unset, .unset] [(.ref b152)])) rfl (by rw [hml]; rfl) (Steps.refl _) (argsL := []) (rest := []) (lenOf own_pd5 rfl) rfl (by show 2 * 0 + _ ≤ _; exact Nat.le_of_eq rfl) (hb hby at_125) (fun _ _ => ⟨rfl, rfl, (by decide : 9 + 0 ≤ _), (by decide : 48 + 0 ≤ _)⟩)
        dsimp only [Pt.U, Pt.locs, Pt.cells, Pt.slots] at X159 l159 y159 z159 st159 hQ159
        subst l159 y159 z159
        obtain ⟨rfl, N159q, e159⟩ := hQ159
        have N159 := Fr.app N155 N159q
        refine own_by (fun t k => st159.trans k) ?_
        rw [own_empp hpa]
        show own_Go p.tables e below K (T159.setTop (mkF m 128 #[.val (.long c1), .second, .val (.long c2), .second, .val (.long hz), .second, .val (.long bd), .second, .val (.long po), .second, .val (.int fl), .val (.long aa), .second, .val (.long bb), .second, .val (.int (1 : Int32)), .val (.ref b148), .val (.ref b150), .val (.ref b152), .val (.int (1 : Int32)), .val (.long aa), .second, .unset, .unset] [(.int (0 : Int32))]))
        refine own_by (fun t k => XS.istore X159.here hx rfl (hb hby at_128) rfl (l' := #[.val (.long c1), .second, .val (.long c2), .second, .val (.long hz), .second, .val (.long bd), .second, .val (.long po), .second, .val (.int fl), .val (.long aa), .second, .val (.long bb), .second, .val (.int (1 : Int32)), .val (.ref b148), .val (.ref b150), .val (.ref b152), .val (.int (1 : Int32)), .val (.long aa), .second, .val (.int (0 : Int32)), .unset]) rfl k) ?_
        show own_Go p.tables e below K (T159.setTop (mkF m 130 #[.val (.long c1), .second, .val (.long c2), .second, .val (.long hz), .second, .val (.long bd), .second, .val (.long po), .second, .val (.int fl), .val (.long aa), .second, .val (.long bb), .second, .val (.int (1 : Int32)), .val (.ref b148), .val (.ref b150), .val (.ref b152), .val (.int (1 : Int32)), .val (.long aa), .second, .val (.int (0 : Int32)), .unset] []))
        refine own_by (fun t k => XS.aload X159.here hx rfl (hb hby at_130) rfl rfl k) ?_
        show own_Go p.tables e below K (T159.setTop (mkF m 132 #[.val (.long c1), .second, .val (.long c2), .second, .val (.long hz), .second, .val (.long bd), .second, .val (.long po), .second, .val (.int fl), .val (.long aa), .second, .val (.long bb), .second, .val (.int (1 : Int32)), .val (.ref b148), .val (.ref b150), .val (.ref b152), .val (.int (1 : Int32)), .val (.long aa), .second, .val (.int (0 : Int32)), .unset] [(.ref b152)]))
        refine own_by (fun t k => XS.lload X159.here hx rfl (hb hby at_132) rfl k) ?_
        show own_Go p.tables e below K (T159.setTop (mkF m 134 #[.val (.long c1), .second, .val (.long c2), .second, .val (.long hz), .second, .val (.long bd), .second, .val (.long po), .second, .val (.int fl), .val (.long aa), .second, .val (.long bb), .second, .val (.int (1 : Int32)), .val (.ref b148), .val (.ref b150), .val (.ref b152), .val (.int (1 : Int32)), .val (.long aa), .second, .val (.int (0 : Int32)), .unset] [(.long hz), (.ref b152)]))
        obtain ⟨cq160, kq160, q160a, q160b, q160c⟩ := isOf hZ e159 Bq155.1
        obtain ⟨_, _, ⟨T160, L160, k160, n160⟩, -, X160, ⟨Lc160, hQ160, l160, y160, z160⟩, st160⟩ := X159.virtualBack hx (y := (⟨"com/example/predicate/predicate/engine/FoldedTransactions", "forgetSeenWithin", "(J)V"⟩ : MethodName)) (z := (⟨"com/example/predicate/predicate/engine/FoldedTransactions", "forgetSeenWithin", "(J)V"⟩ : MethodName)) hown (mvT hZ (hw _ (List.mem_of_getElem? (i := 173) rfl))) (mvT hZ (hw _ (List.mem_of_getElem? (i := 174) rfl))) (notFace_of_selects (args := #[]) (mvT hZ (hw _ (List.mem_of_getElem? (i := 176) rfl)))) (mvT hZ (hw _ (List.mem_of_getElem? (i := 176) rfl))) (mvT hZ (hw _ (List.mem_of_getElem? (i := 175) rfl))) (by decide) (backOf (W := 0) (own_rmfgt1 l Z aw hw [] b152 hz hm153 dq153 el153 k153c (0 : Int32) aa T155.heap n0 Z155 Bq155 gn_b152 gh153 gd153 ge153) hZ (hw _ (List.mem_of_getElem? (i := 177) rfl)) (hw _ (List.mem_of_getElem? (i := 34) rfl)) (by decide) (by decide)) q160a q160c (g := (mkF m 134 #[.val (.long c1), .second, .val (.long c2), .second, .val (.long hz), .second, .val (.long bd), .second, .val (.long po), .second, .val (.int fl), .val (.long aa), .second, .val (.long bb), .second, .val (.int (1 : Int32)), .val (.ref b148), .val (.ref b150), .val (.ref b152), .val (.int (1 : Int32)), .val (.long aa), .second, .val (.int (0 : Int32)), .unset] [(.long hz), (.ref b152)])) rfl (by rw [hml]; rfl) (Steps.refl _) (argsL := [(.long hz)]) (rest := []) (lenOf own_pd12 rfl) rfl (by show 2 * 0 + _ ≤ _; exact Nat.le_of_eq rfl) (hb hby at_134) (fun _ _ => ⟨rfl, e159, (by decide : 9 + 0 ≤ _), (by decide : 48 + 0 ≤ _)⟩)
        dsimp only [Pt.U, Pt.locs, Pt.cells, Pt.slots] at X160 l160 y160 z160 st160 hQ160
        subst l160 y160 z160
        obtain ⟨rfl, N160q, Xp160, Lp160⟩ := hQ160
        have N160 := Fr.app N159 N160q
        refine own_by (fun t k => st160.trans k) ?_
        have Zq160 : n0 ≤ T160.heap.size := Nat.le_of_lt (Nat.lt_of_le_of_lt gn_b152 Xp160.lt)
        show own_Go p.tables e below K (T160.setTop (mkF m 137 #[.val (.long c1), .second, .val (.long c2), .second, .val (.long hz), .second, .val (.long bd), .second, .val (.long po), .second, .val (.int fl), .val (.long aa), .second, .val (.long bb), .second, .val (.int (1 : Int32)), .val (.ref b148), .val (.ref b150), .val (.ref b152), .val (.int (1 : Int32)), .val (.long aa), .second, .val (.int (0 : Int32)), .unset] []))
        refine own_by (fun t k => XS.aload X160.here hx rfl (hb hby at_137) rfl rfl k) ?_
        show own_Go p.tables e below K (T160.setTop (mkF m 139 #[.val (.long c1), .second, .val (.long c2), .second, .val (.long hz), .second, .val (.long bd), .second, .val (.long po), .second, .val (.int fl), .val (.long aa), .second, .val (.long bb), .second, .val (.int (1 : Int32)), .val (.ref b148), .val (.ref b150), .val (.ref b152), .val (.int (1 : Int32)), .val (.long aa), .second, .val (.int (0 : Int32)), .unset] [(.ref b152)]))
        obtain ⟨cq161, kq161, q161a, q161b, q161c⟩ := isOf hZ rfl Xp160
        obtain ⟨_, _, ⟨T161, L161, k161, n161⟩, -, X161, ⟨Lc161, hQ161, l161, y161, z161⟩, st161⟩ := X160.virtualBack hx (y := (⟨"com/example/predicate/predicate/engine/FoldedTransactions", "isEmpty", "()Z"⟩ : MethodName)) (z := (⟨"com/example/predicate/predicate/engine/FoldedTransactions", "isEmpty", "()Z"⟩ : MethodName)) hown (mvT hZ (hw _ (List.mem_of_getElem? (i := 71) rfl))) (mvT hZ (hw _ (List.mem_of_getElem? (i := 72) rfl))) (notFace_of_selects (args := #[]) (mvT hZ (hw _ (List.mem_of_getElem? (i := 74) rfl)))) (mvT hZ (hw _ (List.mem_of_getElem? (i := 74) rfl))) (mvT hZ (hw _ (List.mem_of_getElem? (i := 73) rfl))) (by decide) (backOf (W := 0) (own_rmemp l Z aw hw [] b152 (own_fgt aa hz) T160.heap n0 Zq160 Lp160) hZ (hw _ (List.mem_of_getElem? (i := 75) rfl)) (hw _ (List.mem_of_getElem? (i := 34) rfl)) (by decide) (by decide)) q161a q161c (g := (mkF m 139 #[.val (.long c1), .second, .val (.long c2), .second, .val (.long hz), .second, .val (.long bd), .second, .val (.long po), .second, .val (.int fl), .val (.long aa), .second, .val (.long bb), .second, .val (.int (1 : Int32)), .val (.ref b148), .val (.ref b150), .val (.ref b152), .val (.int (1 : Int32)), .val (.long aa), .second, .val (.int (0 : Int32)), .unset] [(.ref b152)])) rfl (by rw [hml]; rfl) (Steps.refl _) (argsL := []) (rest := []) (lenOf own_pd5 rfl) rfl (by show 2 * 0 + _ ≤ _; exact Nat.le_of_eq rfl) (hb hby at_139) (fun _ _ => ⟨rfl, rfl, (by decide : 9 + 0 ≤ _), (by decide : 48 + 0 ≤ _)⟩)
        dsimp only [Pt.U, Pt.locs, Pt.cells, Pt.slots] at X161 l161 y161 z161 st161 hQ161
        subst l161 y161 z161
        obtain ⟨rfl, N161q, e161⟩ := hQ161
        have N161 := Fr.app N160 N161q
        refine own_by (fun t k => st161.trans k) ?_
        show own_Go p.tables e below K (T161.setTop (mkF m 142 #[.val (.long c1), .second, .val (.long c2), .second, .val (.long hz), .second, .val (.long bd), .second, .val (.long po), .second, .val (.int fl), .val (.long aa), .second, .val (.long bb), .second, .val (.int (1 : Int32)), .val (.ref b148), .val (.ref b150), .val (.ref b152), .val (.int (1 : Int32)), .val (.long aa), .second, .val (.int (0 : Int32)), .unset] [(.int (own_emp (own_fgt aa hz)))]))
        refine own_by (fun t k => XS.istore X161.here hx rfl (hb hby at_142) rfl (l' := #[.val (.long c1), .second, .val (.long c2), .second, .val (.long hz), .second, .val (.long bd), .second, .val (.long po), .second, .val (.int fl), .val (.long aa), .second, .val (.long bb), .second, .val (.int (1 : Int32)), .val (.ref b148), .val (.ref b150), .val (.ref b152), .val (.int (1 : Int32)), .val (.long aa), .second, .val (.int (0 : Int32)), .val (.int (own_emp (own_fgt aa hz)))]) rfl k) ?_
        show own_Go p.tables e below K (T161.setTop (mkF m 144 #[.val (.long c1), .second, .val (.long c2), .second, .val (.long hz), .second, .val (.long bd), .second, .val (.long po), .second, .val (.int fl), .val (.long aa), .second, .val (.long bb), .second, .val (.int (1 : Int32)), .val (.ref b148), .val (.ref b150), .val (.ref b152), .val (.int (1 : Int32)), .val (.long aa), .second, .val (.int (0 : Int32)), .val (.int (own_emp (own_fgt aa hz)))] []))
        refine own_by (fun t k => XS.iload X161.here hx rfl (hb hby at_144) rfl k) ?_
        show own_Go p.tables e below K (T161.setTop (mkF m 146 #[.val (.long c1), .second, .val (.long c2), .second, .val (.long hz), .second, .val (.long bd), .second, .val (.long po), .second, .val (.int fl), .val (.long aa), .second, .val (.long bb), .second, .val (.int (1 : Int32)), .val (.ref b148), .val (.ref b150), .val (.ref b152), .val (.int (1 : Int32)), .val (.long aa), .second, .val (.int (0 : Int32)), .val (.int (own_emp (own_fgt aa hz)))] [(.int (1 : Int32))]))
        have hc146 : ¬ ((1 : Int32) = (0 : Int32)) := by decide
        refine own_by (fun t k => XS.ifNo X161.here hx rfl (hb hby at_146) rfl ((if0 _ _).trans (feq hc146).1) k) ?_
        show own_Go p.tables e below K (T161.setTop (mkF m 149 #[.val (.long c1), .second, .val (.long c2), .second, .val (.long hz), .second, .val (.long bd), .second, .val (.long po), .second, .val (.int fl), .val (.long aa), .second, .val (.long bb), .second, .val (.int (1 : Int32)), .val (.ref b148), .val (.ref b150), .val (.ref b152), .val (.int (1 : Int32)), .val (.long aa), .second, .val (.int (0 : Int32)), .val (.int (own_emp (own_fgt aa hz)))] []))
        refine own_by (fun t k => XS.iload X161.here hx rfl (hb hby at_149) rfl k) ?_
        show own_Go p.tables e below K (T161.setTop (mkF m 151 #[.val (.long c1), .second, .val (.long c2), .second, .val (.long hz), .second, .val (.long bd), .second, .val (.long po), .second, .val (.int fl), .val (.long aa), .second, .val (.long bb), .second, .val (.int (1 : Int32)), .val (.ref b148), .val (.ref b150), .val (.ref b152), .val (.int (1 : Int32)), .val (.long aa), .second, .val (.int (0 : Int32)), .val (.int (own_emp (own_fgt aa hz)))] [(.int (0 : Int32))]))
        refine own_by (fun t k => XS.iload X161.here hx rfl (hb hby at_151) rfl k) ?_
        show own_Go p.tables e below K (T161.setTop (mkF m 153 #[.val (.long c1), .second, .val (.long c2), .second, .val (.long hz), .second, .val (.long bd), .second, .val (.long po), .second, .val (.int fl), .val (.long aa), .second, .val (.long bb), .second, .val (.int (1 : Int32)), .val (.ref b148), .val (.ref b150), .val (.ref b152), .val (.int (1 : Int32)), .val (.long aa), .second, .val (.int (0 : Int32)), .val (.int (own_emp (own_fgt aa hz)))] [(.int (1 : Int32)), (.int (0 : Int32))]))
        have hc153 : ¬ ((1 : Int32) = (0 : Int32)) := by decide
        refine own_by (fun t k => XS.ifYes X161.here hx rfl (pc0 := 153) (pc' := 160) rfl (hb hby at_153) rfl ((if0 _ _).trans (feq hc153).2) (by decide) (by decide) k) ?_
        show own_Go p.tables e below K (T161.setTop (mkF m 160 #[.val (.long c1), .second, .val (.long c2), .second, .val (.long hz), .second, .val (.long bd), .second, .val (.long po), .second, .val (.int fl), .val (.long aa), .second, .val (.long bb), .second, .val (.int (1 : Int32)), .val (.ref b148), .val (.ref b150), .val (.ref b152), .val (.int (1 : Int32)), .val (.long aa), .second, .val (.int (0 : Int32)), .val (.int (own_emp (own_fgt aa hz)))] [(.int (0 : Int32))]))
        refine own_by (fun t k => XS.iconst X161.here hx rfl (hb hby at_160) k) ?_
        show own_Go p.tables e below K (T161.setTop (mkF m 161 #[.val (.long c1), .second, .val (.long c2), .second, .val (.long hz), .second, .val (.long bd), .second, .val (.long po), .second, .val (.int fl), .val (.long aa), .second, .val (.long bb), .second, .val (.int (1 : Int32)), .val (.ref b148), .val (.ref b150), .val (.ref b152), .val (.int (1 : Int32)), .val (.long aa), .second, .val (.int (0 : Int32)), .val (.int (own_emp (own_fgt aa hz)))] [(.int (0 : Int32)), (.int (0 : Int32))]))
        have hc161 : (0 : Int32) = (0 : Int32) := by decide
        refine own_by (fun t k => XS.icmpNo X161.here hx rfl (hb hby at_161) rfl (teq hc161).2 k) ?_
        show own_Go p.tables e below K (T161.setTop (mkF m 164 #[.val (.long c1), .second, .val (.long c2), .second, .val (.long hz), .second, .val (.long bd), .second, .val (.long po), .second, .val (.int fl), .val (.long aa), .second, .val (.long bb), .second, .val (.int (1 : Int32)), .val (.ref b148), .val (.ref b150), .val (.ref b152), .val (.int (1 : Int32)), .val (.long aa), .second, .val (.int (0 : Int32)), .val (.int (own_emp (own_fgt aa hz)))] []))
        refine own_by (fun t k => XS.iload X161.here hx rfl (hb hby at_164) rfl k) ?_
        show own_Go p.tables e below K (T161.setTop (mkF m 166 #[.val (.long c1), .second, .val (.long c2), .second, .val (.long hz), .second, .val (.long bd), .second, .val (.long po), .second, .val (.int fl), .val (.long aa), .second, .val (.long bb), .second, .val (.int (1 : Int32)), .val (.ref b148), .val (.ref b150), .val (.ref b152), .val (.int (1 : Int32)), .val (.long aa), .second, .val (.int (0 : Int32)), .val (.int (own_emp (own_fgt aa hz)))] [(.int (own_emp (own_fgt aa hz)))]))
        refine own_by (fun t k => XS.iload X161.here hx rfl (hb hby at_166) rfl k) ?_
        show own_Go p.tables e below K (T161.setTop (mkF m 168 #[.val (.long c1), .second, .val (.long c2), .second, .val (.long hz), .second, .val (.long bd), .second, .val (.long po), .second, .val (.int fl), .val (.long aa), .second, .val (.long bb), .second, .val (.int (1 : Int32)), .val (.ref b148), .val (.ref b150), .val (.ref b152), .val (.int (1 : Int32)), .val (.long aa), .second, .val (.int (0 : Int32)), .val (.int (own_emp (own_fgt aa hz)))] [(.int (1 : Int32)), (.int (own_emp (own_fgt aa hz)))]))
        have hc168 : ¬ ((1 : Int32) = (0 : Int32)) := by decide
        refine own_by (fun t k => XS.ifNo X161.here hx rfl (hb hby at_168) rfl ((if0 _ _).trans (feq hc168).1) k) ?_
        show own_Go p.tables e below K (T161.setTop (mkF m 171 #[.val (.long c1), .second, .val (.long c2), .second, .val (.long hz), .second, .val (.long bd), .second, .val (.long po), .second, .val (.int fl), .val (.long aa), .second, .val (.long bb), .second, .val (.int (1 : Int32)), .val (.ref b148), .val (.ref b150), .val (.ref b152), .val (.int (1 : Int32)), .val (.long aa), .second, .val (.int (0 : Int32)), .val (.int (own_emp (own_fgt aa hz)))] [(.int (own_emp (own_fgt aa hz)))]))
        refine own_by (fun t k => XS.lload X161.here hx rfl (hb hby at_171) rfl k) ?_
        show own_Go p.tables e below K (T161.setTop (mkF m 173 #[.val (.long c1), .second, .val (.long c2), .second, .val (.long hz), .second, .val (.long bd), .second, .val (.long po), .second, .val (.int fl), .val (.long aa), .second, .val (.long bb), .second, .val (.int (1 : Int32)), .val (.ref b148), .val (.ref b150), .val (.ref b152), .val (.int (1 : Int32)), .val (.long aa), .second, .val (.int (0 : Int32)), .val (.int (own_emp (own_fgt aa hz)))] [(.long aa), (.int (own_emp (own_fgt aa hz)))]))
        refine own_by (fun t k => XS.lload X161.here hx rfl (hb hby at_173) rfl k) ?_
        show own_Go p.tables e below K (T161.setTop (mkF m 175 #[.val (.long c1), .second, .val (.long c2), .second, .val (.long hz), .second, .val (.long bd), .second, .val (.long po), .second, .val (.int fl), .val (.long aa), .second, .val (.long bb), .second, .val (.int (1 : Int32)), .val (.ref b148), .val (.ref b150), .val (.ref b152), .val (.int (1 : Int32)), .val (.long aa), .second, .val (.int (0 : Int32)), .val (.int (own_emp (own_fgt aa hz)))] [(.long hz), (.long aa), (.int (own_emp (own_fgt aa hz)))]))
        refine own_by (fun t k => XS.lcmp X161.here hx rfl (hb hby at_175) rfl k) ?_
        show own_Go p.tables e below K (T161.setTop (mkF m 176 #[.val (.long c1), .second, .val (.long c2), .second, .val (.long hz), .second, .val (.long bd), .second, .val (.long po), .second, .val (.int fl), .val (.long aa), .second, .val (.long bb), .second, .val (.int (1 : Int32)), .val (.ref b148), .val (.ref b150), .val (.ref b152), .val (.int (1 : Int32)), .val (.long aa), .second, .val (.int (0 : Int32)), .val (.int (own_emp (own_fgt aa hz)))] [(.int (lcmpW aa hz)), (.int (own_emp (own_fgt aa hz)))]))
        by_cases hc176 : hz < aa
        · refine own_by (fun t k => XS.ifYes X161.here hx rfl (pc0 := 176) (pc' := 183) rfl (hb hby at_176) rfl (own_lgt hc176).1 (by decide) (by decide) k) ?_
          show own_Go p.tables e below K (T161.setTop (mkF m 183 #[.val (.long c1), .second, .val (.long c2), .second, .val (.long hz), .second, .val (.long bd), .second, .val (.long po), .second, .val (.int fl), .val (.long aa), .second, .val (.long bb), .second, .val (.int (1 : Int32)), .val (.ref b148), .val (.ref b150), .val (.ref b152), .val (.int (1 : Int32)), .val (.long aa), .second, .val (.int (0 : Int32)), .val (.int (own_emp (own_fgt aa hz)))] [(.int (own_emp (own_fgt aa hz)))]))
          refine own_by (fun t k => XS.iconst X161.here hx rfl (hb hby at_183) k) ?_
          show own_Go p.tables e below K (T161.setTop (mkF m 184 #[.val (.long c1), .second, .val (.long c2), .second, .val (.long hz), .second, .val (.long bd), .second, .val (.long po), .second, .val (.int fl), .val (.long aa), .second, .val (.long bb), .second, .val (.int (1 : Int32)), .val (.ref b148), .val (.ref b150), .val (.ref b152), .val (.int (1 : Int32)), .val (.long aa), .second, .val (.int (0 : Int32)), .val (.int (own_emp (own_fgt aa hz)))] [(.int (0 : Int32)), (.int (own_emp (own_fgt aa hz)))]))
          have hc184 : (own_emp (own_fgt aa hz)) = (0 : Int32) := by rw [own_e2 hpa, if_pos hc176]
          refine own_by (fun t k => XS.icmpNo X161.here hx rfl (hb hby at_184) rfl (teq hc184).2 k) ?_
          show own_Go p.tables e below K (T161.setTop (mkF m 187 #[.val (.long c1), .second, .val (.long c2), .second, .val (.long hz), .second, .val (.long bd), .second, .val (.long po), .second, .val (.int fl), .val (.long aa), .second, .val (.long bb), .second, .val (.int (1 : Int32)), .val (.ref b148), .val (.ref b150), .val (.ref b152), .val (.int (1 : Int32)), .val (.long aa), .second, .val (.int (0 : Int32)), .val (.int (own_emp (own_fgt aa hz)))] []))
          refine own_by (fun t k => XS.iconst X161.here hx rfl (hb hby at_187) k) ?_
          show own_Go p.tables e below K (T161.setTop (mkF m 188 #[.val (.long c1), .second, .val (.long c2), .second, .val (.long hz), .second, .val (.long bd), .second, .val (.long po), .second, .val (.int fl), .val (.long aa), .second, .val (.long bb), .second, .val (.int (1 : Int32)), .val (.ref b148), .val (.ref b150), .val (.ref b152), .val (.int (1 : Int32)), .val (.long aa), .second, .val (.int (0 : Int32)), .val (.int (own_emp (own_fgt aa hz)))] [(.int (1 : Int32))]))
          refine own_by (fun t k => XS.goto X161.here hx rfl (pc0 := 188) (pc' := 192) rfl (hb hby at_188) (by decide) (by decide) k) ?_
          show own_Go p.tables e below K (T161.setTop (mkF m 192 #[.val (.long c1), .second, .val (.long c2), .second, .val (.long hz), .second, .val (.long bd), .second, .val (.long po), .second, .val (.int fl), .val (.long aa), .second, .val (.long bb), .second, .val (.int (1 : Int32)), .val (.ref b148), .val (.ref b150), .val (.ref b152), .val (.int (1 : Int32)), .val (.long aa), .second, .val (.int (0 : Int32)), .val (.int (own_emp (own_fgt aa hz)))] [(.int (1 : Int32))]))
          exact own_retZ X161 hx (t := .boolean) hret (by simp) (hb hby at_192) (hK (some (.int (1 : Int32))) X161 (fun h => by rw [hret] at h; cases h) (⟨rfl, N161⟩) (by decide) (by decide))
        · refine own_by (fun t k => XS.ifNo X161.here hx rfl (hb hby at_176) rfl (own_lle hc176).1 k) ?_
          show own_Go p.tables e below K (T161.setTop (mkF m 179 #[.val (.long c1), .second, .val (.long c2), .second, .val (.long hz), .second, .val (.long bd), .second, .val (.long po), .second, .val (.int fl), .val (.long aa), .second, .val (.long bb), .second, .val (.int (1 : Int32)), .val (.ref b148), .val (.ref b150), .val (.ref b152), .val (.int (1 : Int32)), .val (.long aa), .second, .val (.int (0 : Int32)), .val (.int (own_emp (own_fgt aa hz)))] [(.int (own_emp (own_fgt aa hz)))]))
          refine own_by (fun t k => XS.iconst X161.here hx rfl (hb hby at_179) k) ?_
          show own_Go p.tables e below K (T161.setTop (mkF m 180 #[.val (.long c1), .second, .val (.long c2), .second, .val (.long hz), .second, .val (.long bd), .second, .val (.long po), .second, .val (.int fl), .val (.long aa), .second, .val (.long bb), .second, .val (.int (1 : Int32)), .val (.ref b148), .val (.ref b150), .val (.ref b152), .val (.int (1 : Int32)), .val (.long aa), .second, .val (.int (0 : Int32)), .val (.int (own_emp (own_fgt aa hz)))] [(.int (1 : Int32)), (.int (own_emp (own_fgt aa hz)))]))
          refine own_by (fun t k => XS.goto X161.here hx rfl (pc0 := 180) (pc' := 184) rfl (hb hby at_180) (by decide) (by decide) k) ?_
          show own_Go p.tables e below K (T161.setTop (mkF m 184 #[.val (.long c1), .second, .val (.long c2), .second, .val (.long hz), .second, .val (.long bd), .second, .val (.long po), .second, .val (.int fl), .val (.long aa), .second, .val (.long bb), .second, .val (.int (1 : Int32)), .val (.ref b148), .val (.ref b150), .val (.ref b152), .val (.int (1 : Int32)), .val (.long aa), .second, .val (.int (0 : Int32)), .val (.int (own_emp (own_fgt aa hz)))] [(.int (1 : Int32)), (.int (own_emp (own_fgt aa hz)))]))
          have hc184 : (own_emp (own_fgt aa hz)) = (1 : Int32) := by rw [own_e2 hpa, if_neg hc176]
          refine own_by (fun t k => XS.icmpNo X161.here hx rfl (hb hby at_184) rfl (teq hc184).2 k) ?_
          show own_Go p.tables e below K (T161.setTop (mkF m 187 #[.val (.long c1), .second, .val (.long c2), .second, .val (.long hz), .second, .val (.long bd), .second, .val (.long po), .second, .val (.int fl), .val (.long aa), .second, .val (.long bb), .second, .val (.int (1 : Int32)), .val (.ref b148), .val (.ref b150), .val (.ref b152), .val (.int (1 : Int32)), .val (.long aa), .second, .val (.int (0 : Int32)), .val (.int (own_emp (own_fgt aa hz)))] []))
          refine own_by (fun t k => XS.iconst X161.here hx rfl (hb hby at_187) k) ?_
          show own_Go p.tables e below K (T161.setTop (mkF m 188 #[.val (.long c1), .second, .val (.long c2), .second, .val (.long hz), .second, .val (.long bd), .second, .val (.long po), .second, .val (.int fl), .val (.long aa), .second, .val (.long bb), .second, .val (.int (1 : Int32)), .val (.ref b148), .val (.ref b150), .val (.ref b152), .val (.int (1 : Int32)), .val (.long aa), .second, .val (.int (0 : Int32)), .val (.int (own_emp (own_fgt aa hz)))] [(.int (1 : Int32))]))
          refine own_by (fun t k => XS.goto X161.here hx rfl (pc0 := 188) (pc' := 192) rfl (hb hby at_188) (by decide) (by decide) k) ?_
          show own_Go p.tables e below K (T161.setTop (mkF m 192 #[.val (.long c1), .second, .val (.long c2), .second, .val (.long hz), .second, .val (.long bd), .second, .val (.long po), .second, .val (.int fl), .val (.long aa), .second, .val (.long bb), .second, .val (.int (1 : Int32)), .val (.ref b148), .val (.ref b150), .val (.ref b152), .val (.int (1 : Int32)), .val (.long aa), .second, .val (.int (0 : Int32)), .val (.int (own_emp (own_fgt aa hz)))] [(.int (1 : Int32))]))
          exact own_retZ X161 hx (t := .boolean) hret (by simp) (hb hby at_192) (hK (some (.int (1 : Int32))) X161 (fun h => by rw [hret] at h; cases h) (⟨rfl, N161⟩) (by decide) (by decide))
    · show own_Go p.tables e below K (T137.setTop (mkF m 31 #[.val (.long c1), .second, .val (.long c2), .second, .val (.long hz), .second, .val (.long bd), .second, .val (.long po), .second, .val (.int fl), .val (.long aa), .second, .val (.long bb), .second, .val (.int (2 : Int32)), .unset, .unset, .unset, .unset, .unset, .unset, .unset, .unset] []))
      obtain ⟨T162, h162, X162, e162, E162, A162, D162, -, st162⟩ := newO X137 hx hZ hown (hw _ (List.mem_of_getElem? (i := 6) rfl)) (hw _ (List.mem_of_getElem? (i := 7) rfl)) (hw _ (List.mem_of_getElem? (i := 8) rfl)) e137 (g := (mkF m 31 #[.val (.long c1), .second, .val (.long c2), .second, .val (.long hz), .second, .val (.long bd), .second, .val (.long po), .second, .val (.int fl), .val (.long aa), .second, .val (.long bb), .second, .val (.int (2 : Int32)), .unset, .unset, .unset, .unset, .unset, .unset, .unset, .unset] [])) rfl (hb hby at_31) (by decide) (by decide)
      obtain ⟨b162, g162⟩ : ∃ z, z = h0.size := ⟨_, rfl⟩
      rw [← g162] at A162 D162 st162
      refine own_by st162 ?_
      have gn_b162 : n0 ≤ b162 := Nat.le_trans Z0 (Nat.le_of_eq g162.symm)
      have Z162 := Nat.le_trans Z0 E162.1
      have O162 := O0.ext E162
      have F162_modCount_b162 : Fld Z h162 b162 "java/util/AbstractList" "modCount" "I" (.int (0 : Int32)) := D162 (Or.inl (hw _ (List.mem_of_getElem? (i := 28) rfl))) (ty := .int) (by decide)
      have F162_elementData_b162 : Fld Z h162 b162 "java/util/ArrayList" "elementData" "[Ljava/lang/Object;" .null := D162 (Or.inl (hw _ (List.mem_of_getElem? (i := 31) rfl))) (ty := (.array (.object "java/lang/Object"))) (by decide)
      have F162_size_b162 : Fld Z h162 b162 "java/util/ArrayList" "size" "I" (.int (0 : Int32)) := D162 (Or.inl (hw _ (List.mem_of_getElem? (i := 120) rfl))) (ty := .int) (by decide)
      show own_Go p.tables e below K (T162.setTop (mkF m 34 #[.val (.long c1), .second, .val (.long c2), .second, .val (.long hz), .second, .val (.long bd), .second, .val (.long po), .second, .val (.int fl), .val (.long aa), .second, .val (.long bb), .second, .val (.int (2 : Int32)), .unset, .unset, .unset, .unset, .unset, .unset, .unset, .unset] [(.ref b162)]))
      refine own_by (fun t k => XS.dup X162.here hx rfl (hb hby at_34) rfl rfl k) ?_
      show own_Go p.tables e below K (T162.setTop (mkF m 35 #[.val (.long c1), .second, .val (.long c2), .second, .val (.long hz), .second, .val (.long bd), .second, .val (.long po), .second, .val (.int fl), .val (.long aa), .second, .val (.long bb), .second, .val (.int (2 : Int32)), .unset, .unset, .unset, .unset, .unset, .unset, .unset, .unset] [(.ref b162), (.ref b162)]))
      obtain ⟨_, _, ⟨T163, L163, k163, n163⟩, -, X163, ⟨Lc163, hQ163, l163, y163, z163⟩, st163⟩ := X162.specialBack hx (y := (⟨"java/util/ArrayList", "<init>", "()V"⟩ : MethodName)) rfl hown (mvT hZ (hw _ (List.mem_of_getElem? (i := 9) rfl))) (mvT hZ (hw _ (List.mem_of_getElem? (i := 10) rfl))) (mvT hZ (hw _ (List.mem_of_getElem? (i := 11) rfl))) (by decide) (backOf (W := 1) (own_rmaln l Z aw hw [] b162 dd h162 n0 Z162 A162 gn_b162 F162_modCount_b162 F162_elementData_b162 F162_size_b162 O162 S0) hZ (hw _ (List.mem_of_getElem? (i := 11) rfl)) (hw _ (List.mem_of_getElem? (i := 8) rfl)) (by decide) (by decide)) (g := (mkF m 35 #[.val (.long c1), .second, .val (.long c2), .second, .val (.long hz), .second, .val (.long bd), .second, .val (.long po), .second, .val (.int fl), .val (.long aa), .second, .val (.long bb), .second, .val (.int (2 : Int32)), .unset, .unset, .unset, .unset, .unset, .unset, .unset, .unset] [(.ref b162), (.ref b162)])) rfl (by rw [hml]; rfl) (Steps.refl _) (a := b162) (argsL := []) (rest := [(.ref b162)]) (lenOf own_pd0 rfl) rfl (by show 2 * 0 + _ ≤ _; exact Nat.le_of_eq rfl) (hb hby at_35) (fun _ _ => ⟨rfl, e162, (by decide : 1 + 0 ≤ _), (by decide : 3 + 0 ≤ _)⟩)
      dsimp only [Pt.U, Pt.locs, Pt.cells, Pt.slots] at X163 l163 y163 z163 st163 hQ163
      subst l163 y163 z163
      obtain ⟨rfl, N163q, Kp163, Bp163⟩ := hQ163
      have N163 := Fr.app N137 N163q
      refine own_by (fun t k => st163.trans k) ?_
      have Ex163_b162 := A162.keep Kp163
      have Z163 := Nat.le_trans Z162 Kp163.1
      have O163 := O162.keep Kp163 (allS gn_b162 (all0))
      show own_Go p.tables e below K (T163.setTop (mkF m 38 #[.val (.long c1), .second, .val (.long c2), .second, .val (.long hz), .second, .val (.long bd), .second, .val (.long po), .second, .val (.int fl), .val (.long aa), .second, .val (.long bb), .second, .val (.int (2 : Int32)), .unset, .unset, .unset, .unset, .unset, .unset, .unset, .unset] [(.ref b162)]))
      refine own_by (fun t k => XS.astore X163.here hx rfl (hb hby at_38) rfl rfl (l' := #[.val (.long c1), .second, .val (.long c2), .second, .val (.long hz), .second, .val (.long bd), .second, .val (.long po), .second, .val (.int fl), .val (.long aa), .second, .val (.long bb), .second, .val (.int (2 : Int32)), .val (.ref b162), .unset, .unset, .unset, .unset, .unset, .unset, .unset]) rfl k) ?_
      show own_Go p.tables e below K (T163.setTop (mkF m 40 #[.val (.long c1), .second, .val (.long c2), .second, .val (.long hz), .second, .val (.long bd), .second, .val (.long po), .second, .val (.int fl), .val (.long aa), .second, .val (.long bb), .second, .val (.int (2 : Int32)), .val (.ref b162), .unset, .unset, .unset, .unset, .unset, .unset, .unset] []))
      obtain ⟨T164, h164, X164, e164, E164, A164, D164, -, st164⟩ := newO X163 hx hZ hown (hw _ (List.mem_of_getElem? (i := 6) rfl)) (hw _ (List.mem_of_getElem? (i := 7) rfl)) (hw _ (List.mem_of_getElem? (i := 8) rfl)) rfl (g := (mkF m 40 #[.val (.long c1), .second, .val (.long c2), .second, .val (.long hz), .second, .val (.long bd), .second, .val (.long po), .second, .val (.int fl), .val (.long aa), .second, .val (.long bb), .second, .val (.int (2 : Int32)), .val (.ref b162), .unset, .unset, .unset, .unset, .unset, .unset, .unset] [])) rfl (hb hby at_40) (by decide) (by decide)
      obtain ⟨b164, g164⟩ : ∃ z, z = T163.heap.size := ⟨_, rfl⟩
      rw [← g164] at A164 D164 st164
      refine own_by st164 ?_
      have gn_b164 : n0 ≤ b164 := Nat.le_trans Z163 (Nat.le_of_eq g164.symm)
      have ne_b162_b164 : b162 ≠ b164 := Nat.ne_of_lt (Nat.lt_of_lt_of_le Bp163.1.lt (Nat.le_of_eq g164.symm))
      have F164_modCount_b162 := Bp163.2.1.ext E164
      have F164_size_b162 := Bp163.2.2.ext E164
      have Ex164_b162 := Bp163.1.ext E164
      have Z164 := Nat.le_trans Z163 E164.1
      have O164 := O163.ext E164
      have F164_modCount_b164 : Fld Z h164 b164 "java/util/AbstractList" "modCount" "I" (.int (0 : Int32)) := D164 (Or.inl (hw _ (List.mem_of_getElem? (i := 28) rfl))) (ty := .int) (by decide)
      have F164_elementData_b164 : Fld Z h164 b164 "java/util/ArrayList" "elementData" "[Ljava/lang/Object;" .null := D164 (Or.inl (hw _ (List.mem_of_getElem? (i := 31) rfl))) (ty := (.array (.object "java/lang/Object"))) (by decide)
      have F164_size_b164 : Fld Z h164 b164 "java/util/ArrayList" "size" "I" (.int (0 : Int32)) := D164 (Or.inl (hw _ (List.mem_of_getElem? (i := 120) rfl))) (ty := .int) (by decide)
      show own_Go p.tables e below K (T164.setTop (mkF m 43 #[.val (.long c1), .second, .val (.long c2), .second, .val (.long hz), .second, .val (.long bd), .second, .val (.long po), .second, .val (.int fl), .val (.long aa), .second, .val (.long bb), .second, .val (.int (2 : Int32)), .val (.ref b162), .unset, .unset, .unset, .unset, .unset, .unset, .unset] [(.ref b164)]))
      refine own_by (fun t k => XS.dup X164.here hx rfl (hb hby at_43) rfl rfl k) ?_
      show own_Go p.tables e below K (T164.setTop (mkF m 44 #[.val (.long c1), .second, .val (.long c2), .second, .val (.long hz), .second, .val (.long bd), .second, .val (.long po), .second, .val (.int fl), .val (.long aa), .second, .val (.long bb), .second, .val (.int (2 : Int32)), .val (.ref b162), .unset, .unset, .unset, .unset, .unset, .unset, .unset] [(.ref b164), (.ref b164)]))
      obtain ⟨_, _, ⟨T165, L165, k165, n165⟩, -, X165, ⟨Lc165, hQ165, l165, y165, z165⟩, st165⟩ := X164.specialBack hx (y := (⟨"java/util/ArrayList", "<init>", "()V"⟩ : MethodName)) rfl hown (mvT hZ (hw _ (List.mem_of_getElem? (i := 9) rfl))) (mvT hZ (hw _ (List.mem_of_getElem? (i := 10) rfl))) (mvT hZ (hw _ (List.mem_of_getElem? (i := 11) rfl))) (by decide) (backOf (W := 1) (own_rmaln l Z aw hw [] b164 dd h164 n0 Z164 A164 gn_b164 F164_modCount_b164 F164_elementData_b164 F164_size_b164 O164 S0) hZ (hw _ (List.mem_of_getElem? (i := 11) rfl)) (hw _ (List.mem_of_getElem? (i := 8) rfl)) (by decide) (by decide)) (g := (mkF m 44 #[.val (.long c1), .second, .val (.long c2), .second, .val (.long hz), .second, .val (.long bd), .second, .val (.long po), .second, .val (.int fl), .val (.long aa), .second, .val (.long bb), .second, .val (.int (2 : Int32)), .val (.ref b162), .unset, .unset, .unset, .unset, .unset, .unset, .unset] [(.ref b164), (.ref b164)])) rfl (by rw [hml]; rfl) (Steps.refl _) (a := b164) (argsL := []) (rest := [(.ref b164)]) (lenOf own_pd0 rfl) rfl (by show 2 * 0 + _ ≤ _; exact Nat.le_of_eq rfl) (hb hby at_44) (fun _ _ => ⟨rfl, e164, (by decide : 2 + 0 ≤ _), (by decide : 6 + 0 ≤ _)⟩)
      dsimp only [Pt.U, Pt.locs, Pt.cells, Pt.slots] at X165 l165 y165 z165 st165 hQ165
      subst l165 y165 z165
      obtain ⟨rfl, N165q, Kp165, Bp165⟩ := hQ165
      have N165 := Fr.app N163 N165q
      refine own_by (fun t k => st165.trans k) ?_
      have F165_modCount_b162 := F164_modCount_b162.keep Kp165 (ninS ne_b162_b164 nin0)
      have F165_size_b162 := F164_size_b162.keep Kp165 (ninS ne_b162_b164 nin0)
      have Ex165_b162 := Ex164_b162.keep Kp165
      have Ex165_b164 := A164.keep Kp165
      have Z165 := Nat.le_trans Z164 Kp165.1
      have O165 := O164.keep Kp165 (allS gn_b164 (all0))
      show own_Go p.tables e below K (T165.setTop (mkF m 47 #[.val (.long c1), .second, .val (.long c2), .second, .val (.long hz), .second, .val (.long bd), .second, .val (.long po), .second, .val (.int fl), .val (.long aa), .second, .val (.long bb), .second, .val (.int (2 : Int32)), .val (.ref b162), .unset, .unset, .unset, .unset, .unset, .unset, .unset] [(.ref b164)]))
      refine own_by (fun t k => XS.astore X165.here hx rfl (hb hby at_47) rfl rfl (l' := #[.val (.long c1), .second, .val (.long c2), .second, .val (.long hz), .second, .val (.long bd), .second, .val (.long po), .second, .val (.int fl), .val (.long aa), .second, .val (.long bb), .second, .val (.int (2 : Int32)), .val (.ref b162), .val (.ref b164), .unset, .unset, .unset, .unset, .unset, .unset]) rfl k) ?_
      show own_Go p.tables e below K (T165.setTop (mkF m 49 #[.val (.long c1), .second, .val (.long c2), .second, .val (.long hz), .second, .val (.long bd), .second, .val (.long po), .second, .val (.int fl), .val (.long aa), .second, .val (.long bb), .second, .val (.int (2 : Int32)), .val (.ref b162), .val (.ref b164), .unset, .unset, .unset, .unset, .unset, .unset] []))
      obtain ⟨T166, h166, X166, e166, E166, A166, D166, -, st166⟩ := newO X165 hx hZ hown (hw _ (List.mem_of_getElem? (i := 32) rfl)) (hw _ (List.mem_of_getElem? (i := 33) rfl)) (hw _ (List.mem_of_getElem? (i := 34) rfl)) rfl (g := (mkF m 49 #[.val (.long c1), .second, .val (.long c2), .second, .val (.long hz), .second, .val (.long bd), .second, .val (.long po), .second, .val (.int fl), .val (.long aa), .second, .val (.long bb), .second, .val (.int (2 : Int32)), .val (.ref b162), .val (.ref b164), .unset, .unset, .unset, .unset, .unset, .unset] [])) rfl (hb hby at_49) (by decide) (by decide)
      obtain ⟨b166, g166⟩ : ∃ z, z = T165.heap.size := ⟨_, rfl⟩
      rw [← g166] at A166 D166 st166
      refine own_by st166 ?_
      have gn_b166 : n0 ≤ b166 := Nat.le_trans Z165 (Nat.le_of_eq g166.symm)
      have ne_b162_b166 : b162 ≠ b166 := Nat.ne_of_lt (Nat.lt_of_lt_of_le Ex165_b162.lt (Nat.le_of_eq g166.symm))
      have ne_b164_b166 : b164 ≠ b166 := Nat.ne_of_lt (Nat.lt_of_lt_of_le Bp165.1.lt (Nat.le_of_eq g166.symm))
      have F166_modCount_b162 := F165_modCount_b162.ext E166
      have F166_size_b162 := F165_size_b162.ext E166
      have F166_modCount_b164 := Bp165.2.1.ext E166
      have F166_size_b164 := Bp165.2.2.ext E166
      have Ex166_b162 := Ex165_b162.ext E166
      have Ex166_b164 := Bp165.1.ext E166
      have Z166 := Nat.le_trans Z165 E166.1
      have O166 := O165.ext E166
      have F166_tables_b166 : Fld Z h166 b166 "com/example/predicate/predicate/engine/FoldedTransactions" "tables" "Ljava/util/Map;" .null := D166 (Or.inr (hw _ (List.mem_of_getElem? (i := 56) rfl))) (ty := (.object "java/util/Map")) (by decide)
      have F166_pivots_b166 : Fld Z h166 b166 "com/example/predicate/predicate/engine/FoldedTransactions" "pivots" "Ljava/util/Deque;" .null := D166 (Or.inr (hw _ (List.mem_of_getElem? (i := 70) rfl))) (ty := (.object "java/util/Deque")) (by decide)
      have F166_last_b166 : Fld Z h166 b166 "com/example/predicate/predicate/engine/FoldedTransactions" "last" "J" (.long (0 : Int64)) := D166 (Or.inl (hw _ (List.mem_of_getElem? (i := 77) rfl))) (ty := .long) (by decide)
      have F166_pivotWrites_b166 : Fld Z h166 b166 "com/example/predicate/predicate/engine/FoldedTransactions" "pivotWrites" "J" (.long (0 : Int64)) := D166 (Or.inl (hw _ (List.mem_of_getElem? (i := 162) rfl))) (ty := .long) (by decide)
      show own_Go p.tables e below K (T166.setTop (mkF m 52 #[.val (.long c1), .second, .val (.long c2), .second, .val (.long hz), .second, .val (.long bd), .second, .val (.long po), .second, .val (.int fl), .val (.long aa), .second, .val (.long bb), .second, .val (.int (2 : Int32)), .val (.ref b162), .val (.ref b164), .unset, .unset, .unset, .unset, .unset, .unset] [(.ref b166)]))
      refine own_by (fun t k => XS.dup X166.here hx rfl (hb hby at_52) rfl rfl k) ?_
      show own_Go p.tables e below K (T166.setTop (mkF m 53 #[.val (.long c1), .second, .val (.long c2), .second, .val (.long hz), .second, .val (.long bd), .second, .val (.long po), .second, .val (.int fl), .val (.long aa), .second, .val (.long bb), .second, .val (.int (2 : Int32)), .val (.ref b162), .val (.ref b164), .unset, .unset, .unset, .unset, .unset, .unset] [(.ref b166), (.ref b166)]))
      obtain ⟨_, _, ⟨T167, L167, k167, n167⟩, -, X167, ⟨Lc167, hQ167, l167, y167, z167⟩, st167⟩ := X166.specialBack hx (y := (⟨"com/example/predicate/predicate/engine/FoldedTransactions", "<init>", "()V"⟩ : MethodName)) rfl hown (mvT hZ (hw _ (List.mem_of_getElem? (i := 35) rfl))) (mvT hZ (hw _ (List.mem_of_getElem? (i := 36) rfl))) (mvT hZ (hw _ (List.mem_of_getElem? (i := 37) rfl))) (by decide) (backOf (W := 1) (own_rmftn l Z aw hw [] b166 h166 n0 Z166 A166 gn_b166 F166_tables_b166 F166_pivots_b166 F166_pivotWrites_b166 F166_last_b166) hZ (hw _ (List.mem_of_getElem? (i := 37) rfl)) (hw _ (List.mem_of_getElem? (i := 34) rfl)) (by decide) (by decide)) (g := (mkF m 53 #[.val (.long c1), .second, .val (.long c2), .second, .val (.long hz), .second, .val (.long bd), .second, .val (.long po), .second, .val (.int fl), .val (.long aa), .second, .val (.long bb), .second, .val (.int (2 : Int32)), .val (.ref b162), .val (.ref b164), .unset, .unset, .unset, .unset, .unset, .unset] [(.ref b166), (.ref b166)])) rfl (by rw [hml]; rfl) (Steps.refl _) (a := b166) (argsL := []) (rest := [(.ref b166)]) (lenOf own_pd0 rfl) rfl (by show 2 * 0 + _ ≤ _; exact Nat.le_of_eq rfl) (hb hby at_53) (fun _ _ => ⟨rfl, e166, (by decide : 3 + 3 ≤ _), (by decide : 10 + 28 ≤ _)⟩)
      dsimp only [Pt.U, Pt.locs, Pt.cells, Pt.slots] at X167 l167 y167 z167 st167 hQ167
      subst l167 y167 z167
      obtain ⟨rfl, N167q, Kp167, hm167, dq167, el167, k167c, gh167, gd167, ge167, Bp167⟩ := hQ167
      have N167 := Fr.app N165 N167q
      refine own_by (fun t k => st167.trans k) ?_
      have F167_modCount_b162 := F166_modCount_b162.keep Kp167 (ninS ne_b162_b166 nin0)
      have F167_size_b162 := F166_size_b162.keep Kp167 (ninS ne_b162_b166 nin0)
      have F167_modCount_b164 := F166_modCount_b164.keep Kp167 (ninS ne_b164_b166 nin0)
      have F167_size_b164 := F166_size_b164.keep Kp167 (ninS ne_b164_b166 nin0)
      have Ex167_b162 := Ex166_b162.keep Kp167
      have Ex167_b164 := Ex166_b164.keep Kp167
      have Ex167_b166 := A166.keep Kp167
      have Z167 := Nat.le_trans Z166 Kp167.1
      have O167 := O166.keep Kp167 (allS gn_b166 (all0))
      show own_Go p.tables e below K (T167.setTop (mkF m 56 #[.val (.long c1), .second, .val (.long c2), .second, .val (.long hz), .second, .val (.long bd), .second, .val (.long po), .second, .val (.int fl), .val (.long aa), .second, .val (.long bb), .second, .val (.int (2 : Int32)), .val (.ref b162), .val (.ref b164), .unset, .unset, .unset, .unset, .unset, .unset] [(.ref b166)]))
      refine own_by (fun t k => XS.astore X167.here hx rfl (hb hby at_56) rfl rfl (l' := #[.val (.long c1), .second, .val (.long c2), .second, .val (.long hz), .second, .val (.long bd), .second, .val (.long po), .second, .val (.int fl), .val (.long aa), .second, .val (.long bb), .second, .val (.int (2 : Int32)), .val (.ref b162), .val (.ref b164), .val (.ref b166), .unset, .unset, .unset, .unset, .unset]) rfl k) ?_
      show own_Go p.tables e below K (T167.setTop (mkF m 58 #[.val (.long c1), .second, .val (.long c2), .second, .val (.long hz), .second, .val (.long bd), .second, .val (.long po), .second, .val (.int fl), .val (.long aa), .second, .val (.long bb), .second, .val (.int (2 : Int32)), .val (.ref b162), .val (.ref b164), .val (.ref b166), .unset, .unset, .unset, .unset, .unset] []))
      refine own_by (fun t k => XS.aload X167.here hx rfl (hb hby at_58) rfl rfl k) ?_
      show own_Go p.tables e below K (T167.setTop (mkF m 60 #[.val (.long c1), .second, .val (.long c2), .second, .val (.long hz), .second, .val (.long bd), .second, .val (.long po), .second, .val (.int fl), .val (.long aa), .second, .val (.long bb), .second, .val (.int (2 : Int32)), .val (.ref b162), .val (.ref b164), .val (.ref b166), .unset, .unset, .unset, .unset, .unset] [(.ref b166)]))
      obtain ⟨cq168, kq168, q168a, q168b, q168c⟩ := isOf hZ rfl Bp167.1
      obtain ⟨_, _, ⟨T168, L168, k168, n168⟩, -, X168, ⟨Lc168, hQ168, l168, y168, z168⟩, st168⟩ := X167.virtualBack hx (y := (⟨"com/example/predicate/predicate/engine/FoldedTransactions", "isEmpty", "()Z"⟩ : MethodName)) (z := (⟨"com/example/predicate/predicate/engine/FoldedTransactions", "isEmpty", "()Z"⟩ : MethodName)) hown (mvT hZ (hw _ (List.mem_of_getElem? (i := 71) rfl))) (mvT hZ (hw _ (List.mem_of_getElem? (i := 72) rfl))) (notFace_of_selects (args := #[]) (mvT hZ (hw _ (List.mem_of_getElem? (i := 74) rfl)))) (mvT hZ (hw _ (List.mem_of_getElem? (i := 74) rfl))) (mvT hZ (hw _ (List.mem_of_getElem? (i := 73) rfl))) (by decide) (backOf (W := 0) (own_rmemp l Z aw hw [] b166 (0 : Int64) T167.heap n0 Z167 Bp167.2.2.2.2.1) hZ (hw _ (List.mem_of_getElem? (i := 75) rfl)) (hw _ (List.mem_of_getElem? (i := 34) rfl)) (by decide) (by decide)) q168a q168c (g := (mkF m 60 #[.val (.long c1), .second, .val (.long c2), .second, .val (.long hz), .second, .val (.long bd), .second, .val (.long po), .second, .val (.int fl), .val (.long aa), .second, .val (.long bb), .second, .val (.int (2 : Int32)), .val (.ref b162), .val (.ref b164), .val (.ref b166), .unset, .unset, .unset, .unset, .unset] [(.ref b166)])) rfl (by rw [hml]; rfl) (Steps.refl _) (argsL := []) (rest := []) (lenOf own_pd5 rfl) rfl (by show 2 * 0 + _ ≤ _; exact Nat.le_of_eq rfl) (hb hby at_60) (fun _ _ => ⟨rfl, rfl, (by decide : 6 + 0 ≤ _), (by decide : 38 + 0 ≤ _)⟩)
      dsimp only [Pt.U, Pt.locs, Pt.cells, Pt.slots] at X168 l168 y168 z168 st168 hQ168
      subst l168 y168 z168
      obtain ⟨rfl, N168q, e168⟩ := hQ168
      have N168 := Fr.app N167 N168q
      refine own_by (fun t k => st168.trans k) ?_
      rw [own_emp0]
      show own_Go p.tables e below K (T168.setTop (mkF m 63 #[.val (.long c1), .second, .val (.long c2), .second, .val (.long hz), .second, .val (.long bd), .second, .val (.long po), .second, .val (.int fl), .val (.long aa), .second, .val (.long bb), .second, .val (.int (2 : Int32)), .val (.ref b162), .val (.ref b164), .val (.ref b166), .unset, .unset, .unset, .unset, .unset] [(.int (1 : Int32))]))
      refine own_by (fun t k => XS.istore X168.here hx rfl (hb hby at_63) rfl (l' := #[.val (.long c1), .second, .val (.long c2), .second, .val (.long hz), .second, .val (.long bd), .second, .val (.long po), .second, .val (.int fl), .val (.long aa), .second, .val (.long bb), .second, .val (.int (2 : Int32)), .val (.ref b162), .val (.ref b164), .val (.ref b166), .val (.int (1 : Int32)), .unset, .unset, .unset, .unset]) rfl k) ?_
      show own_Go p.tables e below K (T168.setTop (mkF m 65 #[.val (.long c1), .second, .val (.long c2), .second, .val (.long hz), .second, .val (.long bd), .second, .val (.long po), .second, .val (.int fl), .val (.long aa), .second, .val (.long bb), .second, .val (.int (2 : Int32)), .val (.ref b162), .val (.ref b164), .val (.ref b166), .val (.int (1 : Int32)), .unset, .unset, .unset, .unset] []))
      refine own_by (fun t k => XS.lconst X168.here hx rfl (hb hby at_65) k) ?_
      show own_Go p.tables e below K (T168.setTop (mkF m 66 #[.val (.long c1), .second, .val (.long c2), .second, .val (.long hz), .second, .val (.long bd), .second, .val (.long po), .second, .val (.int fl), .val (.long aa), .second, .val (.long bb), .second, .val (.int (2 : Int32)), .val (.ref b162), .val (.ref b164), .val (.ref b166), .val (.int (1 : Int32)), .unset, .unset, .unset, .unset] [(.long (0 : Int64))]))
      refine own_by (fun t k => XS.lstore X168.here hx rfl (hb hby at_66) rfl (l' := #[.val (.long c1), .second, .val (.long c2), .second, .val (.long hz), .second, .val (.long bd), .second, .val (.long po), .second, .val (.int fl), .val (.long aa), .second, .val (.long bb), .second, .val (.int (2 : Int32)), .val (.ref b162), .val (.ref b164), .val (.ref b166), .val (.int (1 : Int32)), .val (.long (0 : Int64)), .second, .unset, .unset]) rfl k) ?_
      show own_Go p.tables e below K (T168.setTop (mkF m 68 #[.val (.long c1), .second, .val (.long c2), .second, .val (.long hz), .second, .val (.long bd), .second, .val (.long po), .second, .val (.int fl), .val (.long aa), .second, .val (.long bb), .second, .val (.int (2 : Int32)), .val (.ref b162), .val (.ref b164), .val (.ref b166), .val (.int (1 : Int32)), .val (.long (0 : Int64)), .second, .unset, .unset] []))
      refine own_by (fun t k => XS.iload X168.here hx rfl (hb hby at_68) rfl k) ?_
      show own_Go p.tables e below K (T168.setTop (mkF m 70 #[.val (.long c1), .second, .val (.long c2), .second, .val (.long hz), .second, .val (.long bd), .second, .val (.long po), .second, .val (.int fl), .val (.long aa), .second, .val (.long bb), .second, .val (.int (2 : Int32)), .val (.ref b162), .val (.ref b164), .val (.ref b166), .val (.int (1 : Int32)), .val (.long (0 : Int64)), .second, .unset, .unset] [(.int (2 : Int32))]))
      refine own_by (fun t k => XS.iconst X168.here hx rfl (hb hby at_70) k) ?_
      show own_Go p.tables e below K (T168.setTop (mkF m 71 #[.val (.long c1), .second, .val (.long c2), .second, .val (.long hz), .second, .val (.long bd), .second, .val (.long po), .second, .val (.int fl), .val (.long aa), .second, .val (.long bb), .second, .val (.int (2 : Int32)), .val (.ref b162), .val (.ref b164), .val (.ref b166), .val (.int (1 : Int32)), .val (.long (0 : Int64)), .second, .unset, .unset] [(.int (1 : Int32)), (.int (2 : Int32))]))
      have hc71 : ¬ ((2 : Int32) < (1 : Int32)) := by decide
      refine own_by (fun t k => XS.icmpNo X168.here hx rfl (hb hby at_71) rfl (flt hc71).1 k) ?_
      show own_Go p.tables e below K (T168.setTop (mkF m 74 #[.val (.long c1), .second, .val (.long c2), .second, .val (.long hz), .second, .val (.long bd), .second, .val (.long po), .second, .val (.int fl), .val (.long aa), .second, .val (.long bb), .second, .val (.int (2 : Int32)), .val (.ref b162), .val (.ref b164), .val (.ref b166), .val (.int (1 : Int32)), .val (.long (0 : Int64)), .second, .unset, .unset] []))
      refine own_by (fun t k => XS.aload X168.here hx rfl (hb hby at_74) rfl rfl k) ?_
      show own_Go p.tables e below K (T168.setTop (mkF m 76 #[.val (.long c1), .second, .val (.long c2), .second, .val (.long hz), .second, .val (.long bd), .second, .val (.long po), .second, .val (.int fl), .val (.long aa), .second, .val (.long bb), .second, .val (.int (2 : Int32)), .val (.ref b162), .val (.ref b164), .val (.ref b166), .val (.int (1 : Int32)), .val (.long (0 : Int64)), .second, .unset, .unset] [(.ref b166)]))
      refine own_by (fun t k => XS.aload X168.here hx rfl (hb hby at_76) rfl rfl k) ?_
      show own_Go p.tables e below K (T168.setTop (mkF m 78 #[.val (.long c1), .second, .val (.long c2), .second, .val (.long hz), .second, .val (.long bd), .second, .val (.long po), .second, .val (.int fl), .val (.long aa), .second, .val (.long bb), .second, .val (.int (2 : Int32)), .val (.ref b162), .val (.ref b164), .val (.ref b166), .val (.int (1 : Int32)), .val (.long (0 : Int64)), .second, .unset, .unset] [(.ref b162), (.ref b166)]))
      refine own_by (fun t k => XS.aload X168.here hx rfl (hb hby at_78) rfl rfl k) ?_
      show own_Go p.tables e below K (T168.setTop (mkF m 80 #[.val (.long c1), .second, .val (.long c2), .second, .val (.long hz), .second, .val (.long bd), .second, .val (.long po), .second, .val (.int fl), .val (.long aa), .second, .val (.long bb), .second, .val (.int (2 : Int32)), .val (.ref b162), .val (.ref b164), .val (.ref b166), .val (.int (1 : Int32)), .val (.long (0 : Int64)), .second, .unset, .unset] [(.ref b164), (.ref b162), (.ref b166)]))
      refine own_by (fun t k => XS.lload X168.here hx rfl (hb hby at_80) rfl k) ?_
      show own_Go p.tables e below K (T168.setTop (mkF m 82 #[.val (.long c1), .second, .val (.long c2), .second, .val (.long hz), .second, .val (.long bd), .second, .val (.long po), .second, .val (.int fl), .val (.long aa), .second, .val (.long bb), .second, .val (.int (2 : Int32)), .val (.ref b162), .val (.ref b164), .val (.ref b166), .val (.int (1 : Int32)), .val (.long (0 : Int64)), .second, .unset, .unset] [(.long aa), (.ref b164), (.ref b162), (.ref b166)]))
      refine own_by (fun t k => XS.lload X168.here hx rfl (hb hby at_82) rfl k) ?_
      show own_Go p.tables e below K (T168.setTop (mkF m 84 #[.val (.long c1), .second, .val (.long c2), .second, .val (.long hz), .second, .val (.long bd), .second, .val (.long po), .second, .val (.int fl), .val (.long aa), .second, .val (.long bb), .second, .val (.int (2 : Int32)), .val (.ref b162), .val (.ref b164), .val (.ref b166), .val (.int (1 : Int32)), .val (.long (0 : Int64)), .second, .unset, .unset] [(.long bd), (.long aa), (.ref b164), (.ref b162), (.ref b166)]))
      refine own_by (fun t k => XS.lload X168.here hx rfl (hb hby at_84) rfl k) ?_
      show own_Go p.tables e below K (T168.setTop (mkF m 86 #[.val (.long c1), .second, .val (.long c2), .second, .val (.long hz), .second, .val (.long bd), .second, .val (.long po), .second, .val (.int fl), .val (.long aa), .second, .val (.long bb), .second, .val (.int (2 : Int32)), .val (.ref b162), .val (.ref b164), .val (.ref b166), .val (.int (1 : Int32)), .val (.long (0 : Int64)), .second, .unset, .unset] [(.long po), (.long bd), (.long aa), (.ref b164), (.ref b162), (.ref b166)]))
      obtain ⟨cq169, kq169, q169a, q169b, q169c⟩ := isOf hZ e168 Bp167.1
      obtain ⟨_, _, ⟨T169, L169, k169, n169⟩, -, X169, ⟨Lc169, hQ169, l169, y169, z169⟩, st169⟩ := X168.virtualBack hx (y := (⟨"com/example/predicate/predicate/engine/FoldedTransactions", "add", "(Ljava/util/List;Ljava/util/List;JJJ)V"⟩ : MethodName)) (z := (⟨"com/example/predicate/predicate/engine/FoldedTransactions", "add", "(Ljava/util/List;Ljava/util/List;JJJ)V"⟩ : MethodName)) hown (mvT hZ (hw _ (List.mem_of_getElem? (i := 78) rfl))) (mvT hZ (hw _ (List.mem_of_getElem? (i := 79) rfl))) (notFace_of_selects (args := #[]) (mvT hZ (hw _ (List.mem_of_getElem? (i := 81) rfl)))) (mvT hZ (hw _ (List.mem_of_getElem? (i := 81) rfl))) (mvT hZ (hw _ (List.mem_of_getElem? (i := 80) rfl))) (by decide) (backOf (W := 0) (own_rmfadd0 l Z aw hw [] b166 b162 b164 aa bd po hm167 dq167 el167 k167c (0 : Int32) (0 : Int64) T167.heap n0 Z167 Bp167 ⟨Ex167_b162, F167_modCount_b162, F167_size_b162⟩ ⟨Ex167_b164, F167_modCount_b164, F167_size_b164⟩ gn_b166 gh167 gd167 ge167) hZ (hw _ (List.mem_of_getElem? (i := 82) rfl)) (hw _ (List.mem_of_getElem? (i := 34) rfl)) (by decide) (by decide)) q169a q169c (g := (mkF m 86 #[.val (.long c1), .second, .val (.long c2), .second, .val (.long hz), .second, .val (.long bd), .second, .val (.long po), .second, .val (.int fl), .val (.long aa), .second, .val (.long bb), .second, .val (.int (2 : Int32)), .val (.ref b162), .val (.ref b164), .val (.ref b166), .val (.int (1 : Int32)), .val (.long (0 : Int64)), .second, .unset, .unset] [(.long po), (.long bd), (.long aa), (.ref b164), (.ref b162), (.ref b166)])) rfl (by rw [hml]; rfl) (Steps.refl _) (argsL := [(.ref b162), (.ref b164), (.long aa), (.long bd), (.long po)]) (rest := []) (lenOf own_pd13 rfl) rfl (by show 2 * 0 + _ ≤ _; exact Nat.le_of_eq rfl) (hb hby at_86) (fun _ _ => ⟨rfl, e168, (by decide : 6 + 3 ≤ _), (by decide : 38 + 10 ≤ _)⟩)
      dsimp only [Pt.U, Pt.locs, Pt.cells, Pt.slots] at X169 l169 y169 z169 st169 hQ169
      subst l169 y169 z169
      obtain ⟨rfl, N169q, Kp169, Bq169⟩ := hQ169
      have N169 := Fr.app N168 N169q
      refine own_by (fun t k => st169.trans k) ?_
      have F169_modCount_b162 := F167_modCount_b162.keep Kp169 (ninS (Exa.ne Ex167_b162 Bp167.1 (by decide)) (ninS (Exa.ne Ex167_b162 Bp167.2.2.2.2.2.2.1 (by decide)) (ninS (own_Ar.ne Ex167_b162 Bp167.2.2.2.2.2.2.2.2.2.2.1 (hw _ (List.mem_of_getElem? (i := 7) rfl))) nin0)))
      have F169_size_b162 := F167_size_b162.keep Kp169 (ninS (Exa.ne Ex167_b162 Bp167.1 (by decide)) (ninS (Exa.ne Ex167_b162 Bp167.2.2.2.2.2.2.1 (by decide)) (ninS (own_Ar.ne Ex167_b162 Bp167.2.2.2.2.2.2.2.2.2.2.1 (hw _ (List.mem_of_getElem? (i := 7) rfl))) nin0)))
      have F169_modCount_b164 := F167_modCount_b164.keep Kp169 (ninS (Exa.ne Ex167_b164 Bp167.1 (by decide)) (ninS (Exa.ne Ex167_b164 Bp167.2.2.2.2.2.2.1 (by decide)) (ninS (own_Ar.ne Ex167_b164 Bp167.2.2.2.2.2.2.2.2.2.2.1 (hw _ (List.mem_of_getElem? (i := 7) rfl))) nin0)))
      have F169_size_b164 := F167_size_b164.keep Kp169 (ninS (Exa.ne Ex167_b164 Bp167.1 (by decide)) (ninS (Exa.ne Ex167_b164 Bp167.2.2.2.2.2.2.1 (by decide)) (ninS (own_Ar.ne Ex167_b164 Bp167.2.2.2.2.2.2.2.2.2.2.1 (hw _ (List.mem_of_getElem? (i := 7) rfl))) nin0)))
      have Ex169_b162 := Ex167_b162.keep Kp169
      have Ex169_b164 := Ex167_b164.keep Kp169
      have Z169 := Nat.le_trans Z167 Kp169.1
      have O169 := O167.keep Kp169 (allS gn_b166 (allS gd167 (allS ge167 (all0))))
      rw [own_mx0 hpa] at Bq169
      rcases Bq169 with Bq169 | Bq169
      · show own_Go p.tables e below K (T169.setTop (mkF m 89 #[.val (.long c1), .second, .val (.long c2), .second, .val (.long hz), .second, .val (.long bd), .second, .val (.long po), .second, .val (.int fl), .val (.long aa), .second, .val (.long bb), .second, .val (.int (2 : Int32)), .val (.ref b162), .val (.ref b164), .val (.ref b166), .val (.int (1 : Int32)), .val (.long (0 : Int64)), .second, .unset, .unset] []))
        refine own_by (fun t k => XS.lload X169.here hx rfl (hb hby at_89) rfl k) ?_
        show own_Go p.tables e below K (T169.setTop (mkF m 91 #[.val (.long c1), .second, .val (.long c2), .second, .val (.long hz), .second, .val (.long bd), .second, .val (.long po), .second, .val (.int fl), .val (.long aa), .second, .val (.long bb), .second, .val (.int (2 : Int32)), .val (.ref b162), .val (.ref b164), .val (.ref b166), .val (.int (1 : Int32)), .val (.long (0 : Int64)), .second, .unset, .unset] [(.long aa)]))
        refine own_by (fun t k => XS.lstore X169.here hx rfl (hb hby at_91) rfl (l' := #[.val (.long c1), .second, .val (.long c2), .second, .val (.long hz), .second, .val (.long bd), .second, .val (.long po), .second, .val (.int fl), .val (.long aa), .second, .val (.long bb), .second, .val (.int (2 : Int32)), .val (.ref b162), .val (.ref b164), .val (.ref b166), .val (.int (1 : Int32)), .val (.long aa), .second, .unset, .unset]) rfl k) ?_
        show own_Go p.tables e below K (T169.setTop (mkF m 93 #[.val (.long c1), .second, .val (.long c2), .second, .val (.long hz), .second, .val (.long bd), .second, .val (.long po), .second, .val (.int fl), .val (.long aa), .second, .val (.long bb), .second, .val (.int (2 : Int32)), .val (.ref b162), .val (.ref b164), .val (.ref b166), .val (.int (1 : Int32)), .val (.long aa), .second, .unset, .unset] []))
        refine own_by (fun t k => XS.iload X169.here hx rfl (hb hby at_93) rfl k) ?_
        show own_Go p.tables e below K (T169.setTop (mkF m 95 #[.val (.long c1), .second, .val (.long c2), .second, .val (.long hz), .second, .val (.long bd), .second, .val (.long po), .second, .val (.int fl), .val (.long aa), .second, .val (.long bb), .second, .val (.int (2 : Int32)), .val (.ref b162), .val (.ref b164), .val (.ref b166), .val (.int (1 : Int32)), .val (.long aa), .second, .unset, .unset] [(.int (2 : Int32))]))
        refine own_by (fun t k => XS.iconst X169.here hx rfl (hb hby at_95) k) ?_
        show own_Go p.tables e below K (T169.setTop (mkF m 96 #[.val (.long c1), .second, .val (.long c2), .second, .val (.long hz), .second, .val (.long bd), .second, .val (.long po), .second, .val (.int fl), .val (.long aa), .second, .val (.long bb), .second, .val (.int (2 : Int32)), .val (.ref b162), .val (.ref b164), .val (.ref b166), .val (.int (1 : Int32)), .val (.long aa), .second, .unset, .unset] [(.int (2 : Int32)), (.int (2 : Int32))]))
        have hc96 : ¬ ((2 : Int32) < (2 : Int32)) := by decide
        refine own_by (fun t k => XS.icmpNo X169.here hx rfl (hb hby at_96) rfl (flt hc96).1 k) ?_
        show own_Go p.tables e below K (T169.setTop (mkF m 99 #[.val (.long c1), .second, .val (.long c2), .second, .val (.long hz), .second, .val (.long bd), .second, .val (.long po), .second, .val (.int fl), .val (.long aa), .second, .val (.long bb), .second, .val (.int (2 : Int32)), .val (.ref b162), .val (.ref b164), .val (.ref b166), .val (.int (1 : Int32)), .val (.long aa), .second, .unset, .unset] []))
        refine own_by (fun t k => XS.aload X169.here hx rfl (hb hby at_99) rfl rfl k) ?_
        show own_Go p.tables e below K (T169.setTop (mkF m 101 #[.val (.long c1), .second, .val (.long c2), .second, .val (.long hz), .second, .val (.long bd), .second, .val (.long po), .second, .val (.int fl), .val (.long aa), .second, .val (.long bb), .second, .val (.int (2 : Int32)), .val (.ref b162), .val (.ref b164), .val (.ref b166), .val (.int (1 : Int32)), .val (.long aa), .second, .unset, .unset] [(.ref b166)]))
        refine own_by (fun t k => XS.aload X169.here hx rfl (hb hby at_101) rfl rfl k) ?_
        show own_Go p.tables e below K (T169.setTop (mkF m 103 #[.val (.long c1), .second, .val (.long c2), .second, .val (.long hz), .second, .val (.long bd), .second, .val (.long po), .second, .val (.int fl), .val (.long aa), .second, .val (.long bb), .second, .val (.int (2 : Int32)), .val (.ref b162), .val (.ref b164), .val (.ref b166), .val (.int (1 : Int32)), .val (.long aa), .second, .unset, .unset] [(.ref b162), (.ref b166)]))
        refine own_by (fun t k => XS.aload X169.here hx rfl (hb hby at_103) rfl rfl k) ?_
        show own_Go p.tables e below K (T169.setTop (mkF m 105 #[.val (.long c1), .second, .val (.long c2), .second, .val (.long hz), .second, .val (.long bd), .second, .val (.long po), .second, .val (.int fl), .val (.long aa), .second, .val (.long bb), .second, .val (.int (2 : Int32)), .val (.ref b162), .val (.ref b164), .val (.ref b166), .val (.int (1 : Int32)), .val (.long aa), .second, .unset, .unset] [(.ref b164), (.ref b162), (.ref b166)]))
        refine own_by (fun t k => XS.lload X169.here hx rfl (hb hby at_105) rfl k) ?_
        show own_Go p.tables e below K (T169.setTop (mkF m 107 #[.val (.long c1), .second, .val (.long c2), .second, .val (.long hz), .second, .val (.long bd), .second, .val (.long po), .second, .val (.int fl), .val (.long aa), .second, .val (.long bb), .second, .val (.int (2 : Int32)), .val (.ref b162), .val (.ref b164), .val (.ref b166), .val (.int (1 : Int32)), .val (.long aa), .second, .unset, .unset] [(.long bb), (.ref b164), (.ref b162), (.ref b166)]))
        refine own_by (fun t k => XS.lload X169.here hx rfl (hb hby at_107) rfl k) ?_
        show own_Go p.tables e below K (T169.setTop (mkF m 109 #[.val (.long c1), .second, .val (.long c2), .second, .val (.long hz), .second, .val (.long bd), .second, .val (.long po), .second, .val (.int fl), .val (.long aa), .second, .val (.long bb), .second, .val (.int (2 : Int32)), .val (.ref b162), .val (.ref b164), .val (.ref b166), .val (.int (1 : Int32)), .val (.long aa), .second, .unset, .unset] [(.long bd), (.long bb), (.ref b164), (.ref b162), (.ref b166)]))
        refine own_by (fun t k => XS.lload X169.here hx rfl (hb hby at_109) rfl k) ?_
        show own_Go p.tables e below K (T169.setTop (mkF m 111 #[.val (.long c1), .second, .val (.long c2), .second, .val (.long hz), .second, .val (.long bd), .second, .val (.long po), .second, .val (.int fl), .val (.long aa), .second, .val (.long bb), .second, .val (.int (2 : Int32)), .val (.ref b162), .val (.ref b164), .val (.ref b166), .val (.int (1 : Int32)), .val (.long aa), .second, .unset, .unset] [(.long po), (.long bd), (.long bb), (.ref b164), (.ref b162), (.ref b166)]))
        obtain ⟨cq170, kq170, q170a, q170b, q170c⟩ := isOf hZ rfl Bq169.1
        obtain ⟨_, _, ⟨T170, L170, k170, n170⟩, -, X170, ⟨Lc170, hQ170, l170, y170, z170⟩, st170⟩ := X169.virtualBack hx (y := (⟨"com/example/predicate/predicate/engine/FoldedTransactions", "add", "(Ljava/util/List;Ljava/util/List;JJJ)V"⟩ : MethodName)) (z := (⟨"com/example/predicate/predicate/engine/FoldedTransactions", "add", "(Ljava/util/List;Ljava/util/List;JJJ)V"⟩ : MethodName)) hown (mvT hZ (hw _ (List.mem_of_getElem? (i := 78) rfl))) (mvT hZ (hw _ (List.mem_of_getElem? (i := 79) rfl))) (notFace_of_selects (args := #[]) (mvT hZ (hw _ (List.mem_of_getElem? (i := 81) rfl)))) (mvT hZ (hw _ (List.mem_of_getElem? (i := 81) rfl))) (mvT hZ (hw _ (List.mem_of_getElem? (i := 80) rfl))) (by decide) (backOf (W := 0) (own_rmfadd0 l Z aw hw [] b166 b162 b164 bb bd po hm167 dq167 el167 k167c (0 : Int32) aa T169.heap n0 Z169 Bq169 ⟨Ex169_b162, F169_modCount_b162, F169_size_b162⟩ ⟨Ex169_b164, F169_modCount_b164, F169_size_b164⟩ gn_b166 gh167 gd167 ge167) hZ (hw _ (List.mem_of_getElem? (i := 82) rfl)) (hw _ (List.mem_of_getElem? (i := 34) rfl)) (by decide) (by decide)) q170a q170c (g := (mkF m 111 #[.val (.long c1), .second, .val (.long c2), .second, .val (.long hz), .second, .val (.long bd), .second, .val (.long po), .second, .val (.int fl), .val (.long aa), .second, .val (.long bb), .second, .val (.int (2 : Int32)), .val (.ref b162), .val (.ref b164), .val (.ref b166), .val (.int (1 : Int32)), .val (.long aa), .second, .unset, .unset] [(.long po), (.long bd), (.long bb), (.ref b164), (.ref b162), (.ref b166)])) rfl (by rw [hml]; rfl) (Steps.refl _) (argsL := [(.ref b162), (.ref b164), (.long bb), (.long bd), (.long po)]) (rest := []) (lenOf own_pd13 rfl) rfl (by show 2 * 0 + _ ≤ _; exact Nat.le_of_eq rfl) (hb hby at_111) (fun _ _ => ⟨rfl, rfl, (by decide : 9 + 3 ≤ _), (by decide : 48 + 10 ≤ _)⟩)
        dsimp only [Pt.U, Pt.locs, Pt.cells, Pt.slots] at X170 l170 y170 z170 st170 hQ170
        subst l170 y170 z170
        obtain ⟨rfl, N170q, Kp170, Bq170⟩ := hQ170
        have N170 := Fr.app N169 N170q
        refine own_by (fun t k => st170.trans k) ?_
        have F170_modCount_b162 := F169_modCount_b162.keep Kp170 (ninS (Exa.ne Ex169_b162 Bq169.1 (by decide)) (ninS (Exa.ne Ex169_b162 Bq169.2.2.2.2.2.2.1 (by decide)) (ninS (own_Ar.ne Ex169_b162 Bq169.2.2.2.2.2.2.2.2.2.2.1 (hw _ (List.mem_of_getElem? (i := 7) rfl))) nin0)))
        have F170_size_b162 := F169_size_b162.keep Kp170 (ninS (Exa.ne Ex169_b162 Bq169.1 (by decide)) (ninS (Exa.ne Ex169_b162 Bq169.2.2.2.2.2.2.1 (by decide)) (ninS (own_Ar.ne Ex169_b162 Bq169.2.2.2.2.2.2.2.2.2.2.1 (hw _ (List.mem_of_getElem? (i := 7) rfl))) nin0)))
        have F170_modCount_b164 := F169_modCount_b164.keep Kp170 (ninS (Exa.ne Ex169_b164 Bq169.1 (by decide)) (ninS (Exa.ne Ex169_b164 Bq169.2.2.2.2.2.2.1 (by decide)) (ninS (own_Ar.ne Ex169_b164 Bq169.2.2.2.2.2.2.2.2.2.2.1 (hw _ (List.mem_of_getElem? (i := 7) rfl))) nin0)))
        have F170_size_b164 := F169_size_b164.keep Kp170 (ninS (Exa.ne Ex169_b164 Bq169.1 (by decide)) (ninS (Exa.ne Ex169_b164 Bq169.2.2.2.2.2.2.1 (by decide)) (ninS (own_Ar.ne Ex169_b164 Bq169.2.2.2.2.2.2.2.2.2.2.1 (hw _ (List.mem_of_getElem? (i := 7) rfl))) nin0)))
        have Ex170_b162 := Ex169_b162.keep Kp170
        have Ex170_b164 := Ex169_b164.keep Kp170
        have Z170 := Nat.le_trans Z169 Kp170.1
        have O170 := O169.keep Kp170 (allS gn_b166 (allS gd167 (allS ge167 (all0))))
        rcases Bq170 with Bq170 | Bq170
        · show own_Go p.tables e below K (T170.setTop (mkF m 114 #[.val (.long c1), .second, .val (.long c2), .second, .val (.long hz), .second, .val (.long bd), .second, .val (.long po), .second, .val (.int fl), .val (.long aa), .second, .val (.long bb), .second, .val (.int (2 : Int32)), .val (.ref b162), .val (.ref b164), .val (.ref b166), .val (.int (1 : Int32)), .val (.long aa), .second, .unset, .unset] []))
          refine own_by (fun t k => XS.lload X170.here hx rfl (hb hby at_114) rfl k) ?_
          show own_Go p.tables e below K (T170.setTop (mkF m 116 #[.val (.long c1), .second, .val (.long c2), .second, .val (.long hz), .second, .val (.long bd), .second, .val (.long po), .second, .val (.int fl), .val (.long aa), .second, .val (.long bb), .second, .val (.int (2 : Int32)), .val (.ref b162), .val (.ref b164), .val (.ref b166), .val (.int (1 : Int32)), .val (.long aa), .second, .unset, .unset] [(.long aa)]))
          refine own_by (fun t k => XS.lload X170.here hx rfl (hb hby at_116) rfl k) ?_
          show own_Go p.tables e below K (T170.setTop (mkF m 118 #[.val (.long c1), .second, .val (.long c2), .second, .val (.long hz), .second, .val (.long bd), .second, .val (.long po), .second, .val (.int fl), .val (.long aa), .second, .val (.long bb), .second, .val (.int (2 : Int32)), .val (.ref b162), .val (.ref b164), .val (.ref b166), .val (.int (1 : Int32)), .val (.long aa), .second, .unset, .unset] [(.long bb), (.long aa)]))
          obtain ⟨_, _, ⟨T171, L171, k171, n171⟩, -, X171, ⟨Lc171, hQ171, l171, y171, z171⟩, st171⟩ := Jvm.LawKit.callS X170 hx (y := (⟨"java/lang/Math", "max", "(JJ)J"⟩ : MethodName)) hown (mvT hZ (hw _ (List.mem_of_getElem? (i := 1) rfl))) (mvT hZ (hw _ (List.mem_of_getElem? (i := 2) rfl))) (mvT hZ (hw _ (List.mem_of_getElem? (i := 3) rfl))) (mvT hZ (hw _ (List.mem_of_getElem? (i := 4) rfl))) (by decide) (backOf (W := 0) (own_rmmx l Z aw hw [] aa bb T170.heap n0 Z170) hZ (hw _ (List.mem_of_getElem? (i := 4) rfl)) (hw _ (List.mem_of_getElem? (i := 3) rfl)) (by decide) (by decide)) (g := (mkF m 118 #[.val (.long c1), .second, .val (.long c2), .second, .val (.long hz), .second, .val (.long bd), .second, .val (.long po), .second, .val (.int fl), .val (.long aa), .second, .val (.long bb), .second, .val (.int (2 : Int32)), .val (.ref b162), .val (.ref b164), .val (.ref b166), .val (.int (1 : Int32)), .val (.long aa), .second, .unset, .unset] [(.long bb), (.long aa)])) rfl (by rw [hml]; rfl) (argsL := [(.long aa), (.long bb)]) (rest := []) (lenOf own_pd6 rfl) rfl (by show 2 * 0 + _ ≤ _; exact Nat.le_of_eq rfl) (hb hby at_118) (fun _ _ => ⟨rfl, rfl, (by decide : 12 + 0 ≤ _), (by decide : 58 + 0 ≤ _)⟩)
          dsimp only [Pt.U, Pt.locs, Pt.cells, Pt.slots] at X171 l171 y171 z171 st171 hQ171
          subst l171 y171 z171
          obtain ⟨rfl, N171q, e171⟩ := hQ171
          have N171 := Fr.app N170 N171q
          refine own_by st171 ?_
          show own_Go p.tables e below K (T171.setTop (mkF m 121 #[.val (.long c1), .second, .val (.long c2), .second, .val (.long hz), .second, .val (.long bd), .second, .val (.long po), .second, .val (.int fl), .val (.long aa), .second, .val (.long bb), .second, .val (.int (2 : Int32)), .val (.ref b162), .val (.ref b164), .val (.ref b166), .val (.int (1 : Int32)), .val (.long aa), .second, .unset, .unset] [(.long (own_mx aa bb))]))
          refine own_by (fun t k => XS.lstore X171.here hx rfl (hb hby at_121) rfl (l' := #[.val (.long c1), .second, .val (.long c2), .second, .val (.long hz), .second, .val (.long bd), .second, .val (.long po), .second, .val (.int fl), .val (.long aa), .second, .val (.long bb), .second, .val (.int (2 : Int32)), .val (.ref b162), .val (.ref b164), .val (.ref b166), .val (.int (1 : Int32)), .val (.long (own_mx aa bb)), .second, .unset, .unset]) rfl k) ?_
          show own_Go p.tables e below K (T171.setTop (mkF m 123 #[.val (.long c1), .second, .val (.long c2), .second, .val (.long hz), .second, .val (.long bd), .second, .val (.long po), .second, .val (.int fl), .val (.long aa), .second, .val (.long bb), .second, .val (.int (2 : Int32)), .val (.ref b162), .val (.ref b164), .val (.ref b166), .val (.int (1 : Int32)), .val (.long (own_mx aa bb)), .second, .unset, .unset] []))
          refine own_by (fun t k => XS.aload X171.here hx rfl (hb hby at_123) rfl rfl k) ?_
          show own_Go p.tables e below K (T171.setTop (mkF m 125 #[.val (.long c1), .second, .val (.long c2), .second, .val (.long hz), .second, .val (.long bd), .second, .val (.long po), .second, .val (.int fl), .val (.long aa), .second, .val (.long bb), .second, .val (.int (2 : Int32)), .val (.ref b162), .val (.ref b164), .val (.ref b166), .val (.int (1 : Int32)), .val (.long (own_mx aa bb)), .second, .unset, .unset] [(.ref b166)]))
          obtain ⟨cq172, kq172, q172a, q172b, q172c⟩ := isOf hZ e171 Bq170.1
          obtain ⟨_, _, ⟨T172, L172, k172, n172⟩, -, X172, ⟨Lc172, hQ172, l172, y172, z172⟩, st172⟩ := X171.virtualBack hx (y := (⟨"com/example/predicate/predicate/engine/FoldedTransactions", "isEmpty", "()Z"⟩ : MethodName)) (z := (⟨"com/example/predicate/predicate/engine/FoldedTransactions", "isEmpty", "()Z"⟩ : MethodName)) hown (mvT hZ (hw _ (List.mem_of_getElem? (i := 71) rfl))) (mvT hZ (hw _ (List.mem_of_getElem? (i := 72) rfl))) (notFace_of_selects (args := #[]) (mvT hZ (hw _ (List.mem_of_getElem? (i := 74) rfl)))) (mvT hZ (hw _ (List.mem_of_getElem? (i := 74) rfl))) (mvT hZ (hw _ (List.mem_of_getElem? (i := 73) rfl))) (by decide) (backOf (W := 0) (own_rmemp l Z aw hw [] b166 (own_mx aa bb) T170.heap n0 Z170 Bq170.2.2.2.2.1) hZ (hw _ (List.mem_of_getElem? (i := 75) rfl)) (hw _ (List.mem_of_getElem? (i := 34) rfl)) (by decide) (by decide)) q172a q172c (g := (mkF m 125 #[.val (.long c1), .second, .val (.long c2), .second, .val (.long hz), .second, .val (.long bd), .second, .val (.long po), .second, .val (.int fl), .val (.long aa), .second, .val (.long bb), .second, .val (.int (2 : Int32)), .val (.ref b162), .val (.ref b164), .val (.ref b166), .val (.int (1 : Int32)), .val (.long (own_mx aa bb)), .second, .unset, .unset] [(.ref b166)])) rfl (by rw [hml]; rfl) (Steps.refl _) (argsL := []) (rest := []) (lenOf own_pd5 rfl) rfl (by show 2 * 0 + _ ≤ _; exact Nat.le_of_eq rfl) (hb hby at_125) (fun _ _ => ⟨rfl, e171, (by decide : 12 + 0 ≤ _), (by decide : 58 + 0 ≤ _)⟩)
          dsimp only [Pt.U, Pt.locs, Pt.cells, Pt.slots] at X172 l172 y172 z172 st172 hQ172
          subst l172 y172 z172
          obtain ⟨rfl, N172q, e172⟩ := hQ172
          have N172 := Fr.app N171 N172q
          refine own_by (fun t k => st172.trans k) ?_
          rw [own_empp (own_mxp hpa)]
          show own_Go p.tables e below K (T172.setTop (mkF m 128 #[.val (.long c1), .second, .val (.long c2), .second, .val (.long hz), .second, .val (.long bd), .second, .val (.long po), .second, .val (.int fl), .val (.long aa), .second, .val (.long bb), .second, .val (.int (2 : Int32)), .val (.ref b162), .val (.ref b164), .val (.ref b166), .val (.int (1 : Int32)), .val (.long (own_mx aa bb)), .second, .unset, .unset] [(.int (0 : Int32))]))
          refine own_by (fun t k => XS.istore X172.here hx rfl (hb hby at_128) rfl (l' := #[.val (.long c1), .second, .val (.long c2), .second, .val (.long hz), .second, .val (.long bd), .second, .val (.long po), .second, .val (.int fl), .val (.long aa), .second, .val (.long bb), .second, .val (.int (2 : Int32)), .val (.ref b162), .val (.ref b164), .val (.ref b166), .val (.int (1 : Int32)), .val (.long (own_mx aa bb)), .second, .val (.int (0 : Int32)), .unset]) rfl k) ?_
          show own_Go p.tables e below K (T172.setTop (mkF m 130 #[.val (.long c1), .second, .val (.long c2), .second, .val (.long hz), .second, .val (.long bd), .second, .val (.long po), .second, .val (.int fl), .val (.long aa), .second, .val (.long bb), .second, .val (.int (2 : Int32)), .val (.ref b162), .val (.ref b164), .val (.ref b166), .val (.int (1 : Int32)), .val (.long (own_mx aa bb)), .second, .val (.int (0 : Int32)), .unset] []))
          refine own_by (fun t k => XS.aload X172.here hx rfl (hb hby at_130) rfl rfl k) ?_
          show own_Go p.tables e below K (T172.setTop (mkF m 132 #[.val (.long c1), .second, .val (.long c2), .second, .val (.long hz), .second, .val (.long bd), .second, .val (.long po), .second, .val (.int fl), .val (.long aa), .second, .val (.long bb), .second, .val (.int (2 : Int32)), .val (.ref b162), .val (.ref b164), .val (.ref b166), .val (.int (1 : Int32)), .val (.long (own_mx aa bb)), .second, .val (.int (0 : Int32)), .unset] [(.ref b166)]))
          refine own_by (fun t k => XS.lload X172.here hx rfl (hb hby at_132) rfl k) ?_
          show own_Go p.tables e below K (T172.setTop (mkF m 134 #[.val (.long c1), .second, .val (.long c2), .second, .val (.long hz), .second, .val (.long bd), .second, .val (.long po), .second, .val (.int fl), .val (.long aa), .second, .val (.long bb), .second, .val (.int (2 : Int32)), .val (.ref b162), .val (.ref b164), .val (.ref b166), .val (.int (1 : Int32)), .val (.long (own_mx aa bb)), .second, .val (.int (0 : Int32)), .unset] [(.long hz), (.ref b166)]))
          obtain ⟨cq173, kq173, q173a, q173b, q173c⟩ := isOf hZ e172 Bq170.1
          obtain ⟨_, _, ⟨T173, L173, k173, n173⟩, -, X173, ⟨Lc173, hQ173, l173, y173, z173⟩, st173⟩ := X172.virtualBack hx (y := (⟨"com/example/predicate/predicate/engine/FoldedTransactions", "forgetSeenWithin", "(J)V"⟩ : MethodName)) (z := (⟨"com/example/predicate/predicate/engine/FoldedTransactions", "forgetSeenWithin", "(J)V"⟩ : MethodName)) hown (mvT hZ (hw _ (List.mem_of_getElem? (i := 173) rfl))) (mvT hZ (hw _ (List.mem_of_getElem? (i := 174) rfl))) (notFace_of_selects (args := #[]) (mvT hZ (hw _ (List.mem_of_getElem? (i := 176) rfl)))) (mvT hZ (hw _ (List.mem_of_getElem? (i := 176) rfl))) (mvT hZ (hw _ (List.mem_of_getElem? (i := 175) rfl))) (by decide) (backOf (W := 0) (own_rmfgt0 l Z aw hw [] b166 hz hm167 dq167 el167 k167c (0 : Int32) (own_mx aa bb) T170.heap n0 Z170 Bq170 gn_b166 gh167 gd167 ge167) hZ (hw _ (List.mem_of_getElem? (i := 177) rfl)) (hw _ (List.mem_of_getElem? (i := 34) rfl)) (by decide) (by decide)) q173a q173c (g := (mkF m 134 #[.val (.long c1), .second, .val (.long c2), .second, .val (.long hz), .second, .val (.long bd), .second, .val (.long po), .second, .val (.int fl), .val (.long aa), .second, .val (.long bb), .second, .val (.int (2 : Int32)), .val (.ref b162), .val (.ref b164), .val (.ref b166), .val (.int (1 : Int32)), .val (.long (own_mx aa bb)), .second, .val (.int (0 : Int32)), .unset] [(.long hz), (.ref b166)])) rfl (by rw [hml]; rfl) (Steps.refl _) (argsL := [(.long hz)]) (rest := []) (lenOf own_pd12 rfl) rfl (by show 2 * 0 + _ ≤ _; exact Nat.le_of_eq rfl) (hb hby at_134) (fun _ _ => ⟨rfl, e172, (by decide : 12 + 0 ≤ _), (by decide : 58 + 0 ≤ _)⟩)
          dsimp only [Pt.U, Pt.locs, Pt.cells, Pt.slots] at X173 l173 y173 z173 st173 hQ173
          subst l173 y173 z173
          obtain ⟨rfl, N173q, Xp173, Lp173⟩ := hQ173
          have N173 := Fr.app N172 N173q
          refine own_by (fun t k => st173.trans k) ?_
          have Zq173 : n0 ≤ T173.heap.size := Nat.le_of_lt (Nat.lt_of_le_of_lt gn_b166 Xp173.lt)
          show own_Go p.tables e below K (T173.setTop (mkF m 137 #[.val (.long c1), .second, .val (.long c2), .second, .val (.long hz), .second, .val (.long bd), .second, .val (.long po), .second, .val (.int fl), .val (.long aa), .second, .val (.long bb), .second, .val (.int (2 : Int32)), .val (.ref b162), .val (.ref b164), .val (.ref b166), .val (.int (1 : Int32)), .val (.long (own_mx aa bb)), .second, .val (.int (0 : Int32)), .unset] []))
          refine own_by (fun t k => XS.aload X173.here hx rfl (hb hby at_137) rfl rfl k) ?_
          show own_Go p.tables e below K (T173.setTop (mkF m 139 #[.val (.long c1), .second, .val (.long c2), .second, .val (.long hz), .second, .val (.long bd), .second, .val (.long po), .second, .val (.int fl), .val (.long aa), .second, .val (.long bb), .second, .val (.int (2 : Int32)), .val (.ref b162), .val (.ref b164), .val (.ref b166), .val (.int (1 : Int32)), .val (.long (own_mx aa bb)), .second, .val (.int (0 : Int32)), .unset] [(.ref b166)]))
          obtain ⟨cq174, kq174, q174a, q174b, q174c⟩ := isOf hZ rfl Xp173
          obtain ⟨_, _, ⟨T174, L174, k174, n174⟩, -, X174, ⟨Lc174, hQ174, l174, y174, z174⟩, st174⟩ := X173.virtualBack hx (y := (⟨"com/example/predicate/predicate/engine/FoldedTransactions", "isEmpty", "()Z"⟩ : MethodName)) (z := (⟨"com/example/predicate/predicate/engine/FoldedTransactions", "isEmpty", "()Z"⟩ : MethodName)) hown (mvT hZ (hw _ (List.mem_of_getElem? (i := 71) rfl))) (mvT hZ (hw _ (List.mem_of_getElem? (i := 72) rfl))) (notFace_of_selects (args := #[]) (mvT hZ (hw _ (List.mem_of_getElem? (i := 74) rfl)))) (mvT hZ (hw _ (List.mem_of_getElem? (i := 74) rfl))) (mvT hZ (hw _ (List.mem_of_getElem? (i := 73) rfl))) (by decide) (backOf (W := 0) (own_rmemp l Z aw hw [] b166 (own_fgt (own_mx aa bb) hz) T173.heap n0 Zq173 Lp173) hZ (hw _ (List.mem_of_getElem? (i := 75) rfl)) (hw _ (List.mem_of_getElem? (i := 34) rfl)) (by decide) (by decide)) q174a q174c (g := (mkF m 139 #[.val (.long c1), .second, .val (.long c2), .second, .val (.long hz), .second, .val (.long bd), .second, .val (.long po), .second, .val (.int fl), .val (.long aa), .second, .val (.long bb), .second, .val (.int (2 : Int32)), .val (.ref b162), .val (.ref b164), .val (.ref b166), .val (.int (1 : Int32)), .val (.long (own_mx aa bb)), .second, .val (.int (0 : Int32)), .unset] [(.ref b166)])) rfl (by rw [hml]; rfl) (Steps.refl _) (argsL := []) (rest := []) (lenOf own_pd5 rfl) rfl (by show 2 * 0 + _ ≤ _; exact Nat.le_of_eq rfl) (hb hby at_139) (fun _ _ => ⟨rfl, rfl, (by decide : 12 + 0 ≤ _), (by decide : 58 + 0 ≤ _)⟩)
          dsimp only [Pt.U, Pt.locs, Pt.cells, Pt.slots] at X174 l174 y174 z174 st174 hQ174
          subst l174 y174 z174
          obtain ⟨rfl, N174q, e174⟩ := hQ174
          have N174 := Fr.app N173 N174q
          refine own_by (fun t k => st174.trans k) ?_
          show own_Go p.tables e below K (T174.setTop (mkF m 142 #[.val (.long c1), .second, .val (.long c2), .second, .val (.long hz), .second, .val (.long bd), .second, .val (.long po), .second, .val (.int fl), .val (.long aa), .second, .val (.long bb), .second, .val (.int (2 : Int32)), .val (.ref b162), .val (.ref b164), .val (.ref b166), .val (.int (1 : Int32)), .val (.long (own_mx aa bb)), .second, .val (.int (0 : Int32)), .unset] [(.int (own_emp (own_fgt (own_mx aa bb) hz)))]))
          refine own_by (fun t k => XS.istore X174.here hx rfl (hb hby at_142) rfl (l' := #[.val (.long c1), .second, .val (.long c2), .second, .val (.long hz), .second, .val (.long bd), .second, .val (.long po), .second, .val (.int fl), .val (.long aa), .second, .val (.long bb), .second, .val (.int (2 : Int32)), .val (.ref b162), .val (.ref b164), .val (.ref b166), .val (.int (1 : Int32)), .val (.long (own_mx aa bb)), .second, .val (.int (0 : Int32)), .val (.int (own_emp (own_fgt (own_mx aa bb) hz)))]) rfl k) ?_
          show own_Go p.tables e below K (T174.setTop (mkF m 144 #[.val (.long c1), .second, .val (.long c2), .second, .val (.long hz), .second, .val (.long bd), .second, .val (.long po), .second, .val (.int fl), .val (.long aa), .second, .val (.long bb), .second, .val (.int (2 : Int32)), .val (.ref b162), .val (.ref b164), .val (.ref b166), .val (.int (1 : Int32)), .val (.long (own_mx aa bb)), .second, .val (.int (0 : Int32)), .val (.int (own_emp (own_fgt (own_mx aa bb) hz)))] []))
          refine own_by (fun t k => XS.iload X174.here hx rfl (hb hby at_144) rfl k) ?_
          show own_Go p.tables e below K (T174.setTop (mkF m 146 #[.val (.long c1), .second, .val (.long c2), .second, .val (.long hz), .second, .val (.long bd), .second, .val (.long po), .second, .val (.int fl), .val (.long aa), .second, .val (.long bb), .second, .val (.int (2 : Int32)), .val (.ref b162), .val (.ref b164), .val (.ref b166), .val (.int (1 : Int32)), .val (.long (own_mx aa bb)), .second, .val (.int (0 : Int32)), .val (.int (own_emp (own_fgt (own_mx aa bb) hz)))] [(.int (1 : Int32))]))
          have hc146 : ¬ ((1 : Int32) = (0 : Int32)) := by decide
          refine own_by (fun t k => XS.ifNo X174.here hx rfl (hb hby at_146) rfl ((if0 _ _).trans (feq hc146).1) k) ?_
          show own_Go p.tables e below K (T174.setTop (mkF m 149 #[.val (.long c1), .second, .val (.long c2), .second, .val (.long hz), .second, .val (.long bd), .second, .val (.long po), .second, .val (.int fl), .val (.long aa), .second, .val (.long bb), .second, .val (.int (2 : Int32)), .val (.ref b162), .val (.ref b164), .val (.ref b166), .val (.int (1 : Int32)), .val (.long (own_mx aa bb)), .second, .val (.int (0 : Int32)), .val (.int (own_emp (own_fgt (own_mx aa bb) hz)))] []))
          refine own_by (fun t k => XS.iload X174.here hx rfl (hb hby at_149) rfl k) ?_
          show own_Go p.tables e below K (T174.setTop (mkF m 151 #[.val (.long c1), .second, .val (.long c2), .second, .val (.long hz), .second, .val (.long bd), .second, .val (.long po), .second, .val (.int fl), .val (.long aa), .second, .val (.long bb), .second, .val (.int (2 : Int32)), .val (.ref b162), .val (.ref b164), .val (.ref b166), .val (.int (1 : Int32)), .val (.long (own_mx aa bb)), .second, .val (.int (0 : Int32)), .val (.int (own_emp (own_fgt (own_mx aa bb) hz)))] [(.int (0 : Int32))]))
          refine own_by (fun t k => XS.iload X174.here hx rfl (hb hby at_151) rfl k) ?_
          show own_Go p.tables e below K (T174.setTop (mkF m 153 #[.val (.long c1), .second, .val (.long c2), .second, .val (.long hz), .second, .val (.long bd), .second, .val (.long po), .second, .val (.int fl), .val (.long aa), .second, .val (.long bb), .second, .val (.int (2 : Int32)), .val (.ref b162), .val (.ref b164), .val (.ref b166), .val (.int (1 : Int32)), .val (.long (own_mx aa bb)), .second, .val (.int (0 : Int32)), .val (.int (own_emp (own_fgt (own_mx aa bb) hz)))] [(.int (2 : Int32)), (.int (0 : Int32))]))
          have hc153 : ¬ ((2 : Int32) = (0 : Int32)) := by decide
          refine own_by (fun t k => XS.ifYes X174.here hx rfl (pc0 := 153) (pc' := 160) rfl (hb hby at_153) rfl ((if0 _ _).trans (feq hc153).2) (by decide) (by decide) k) ?_
          show own_Go p.tables e below K (T174.setTop (mkF m 160 #[.val (.long c1), .second, .val (.long c2), .second, .val (.long hz), .second, .val (.long bd), .second, .val (.long po), .second, .val (.int fl), .val (.long aa), .second, .val (.long bb), .second, .val (.int (2 : Int32)), .val (.ref b162), .val (.ref b164), .val (.ref b166), .val (.int (1 : Int32)), .val (.long (own_mx aa bb)), .second, .val (.int (0 : Int32)), .val (.int (own_emp (own_fgt (own_mx aa bb) hz)))] [(.int (0 : Int32))]))
          refine own_by (fun t k => XS.iconst X174.here hx rfl (hb hby at_160) k) ?_
          show own_Go p.tables e below K (T174.setTop (mkF m 161 #[.val (.long c1), .second, .val (.long c2), .second, .val (.long hz), .second, .val (.long bd), .second, .val (.long po), .second, .val (.int fl), .val (.long aa), .second, .val (.long bb), .second, .val (.int (2 : Int32)), .val (.ref b162), .val (.ref b164), .val (.ref b166), .val (.int (1 : Int32)), .val (.long (own_mx aa bb)), .second, .val (.int (0 : Int32)), .val (.int (own_emp (own_fgt (own_mx aa bb) hz)))] [(.int (0 : Int32)), (.int (0 : Int32))]))
          have hc161 : (0 : Int32) = (0 : Int32) := by decide
          refine own_by (fun t k => XS.icmpNo X174.here hx rfl (hb hby at_161) rfl (teq hc161).2 k) ?_
          show own_Go p.tables e below K (T174.setTop (mkF m 164 #[.val (.long c1), .second, .val (.long c2), .second, .val (.long hz), .second, .val (.long bd), .second, .val (.long po), .second, .val (.int fl), .val (.long aa), .second, .val (.long bb), .second, .val (.int (2 : Int32)), .val (.ref b162), .val (.ref b164), .val (.ref b166), .val (.int (1 : Int32)), .val (.long (own_mx aa bb)), .second, .val (.int (0 : Int32)), .val (.int (own_emp (own_fgt (own_mx aa bb) hz)))] []))
          refine own_by (fun t k => XS.iload X174.here hx rfl (hb hby at_164) rfl k) ?_
          show own_Go p.tables e below K (T174.setTop (mkF m 166 #[.val (.long c1), .second, .val (.long c2), .second, .val (.long hz), .second, .val (.long bd), .second, .val (.long po), .second, .val (.int fl), .val (.long aa), .second, .val (.long bb), .second, .val (.int (2 : Int32)), .val (.ref b162), .val (.ref b164), .val (.ref b166), .val (.int (1 : Int32)), .val (.long (own_mx aa bb)), .second, .val (.int (0 : Int32)), .val (.int (own_emp (own_fgt (own_mx aa bb) hz)))] [(.int (own_emp (own_fgt (own_mx aa bb) hz)))]))
          refine own_by (fun t k => XS.iload X174.here hx rfl (hb hby at_166) rfl k) ?_
          show own_Go p.tables e below K (T174.setTop (mkF m 168 #[.val (.long c1), .second, .val (.long c2), .second, .val (.long hz), .second, .val (.long bd), .second, .val (.long po), .second, .val (.int fl), .val (.long aa), .second, .val (.long bb), .second, .val (.int (2 : Int32)), .val (.ref b162), .val (.ref b164), .val (.ref b166), .val (.int (1 : Int32)), .val (.long (own_mx aa bb)), .second, .val (.int (0 : Int32)), .val (.int (own_emp (own_fgt (own_mx aa bb) hz)))] [(.int (2 : Int32)), (.int (own_emp (own_fgt (own_mx aa bb) hz)))]))
          have hc168 : ¬ ((2 : Int32) = (0 : Int32)) := by decide
          refine own_by (fun t k => XS.ifNo X174.here hx rfl (hb hby at_168) rfl ((if0 _ _).trans (feq hc168).1) k) ?_
          show own_Go p.tables e below K (T174.setTop (mkF m 171 #[.val (.long c1), .second, .val (.long c2), .second, .val (.long hz), .second, .val (.long bd), .second, .val (.long po), .second, .val (.int fl), .val (.long aa), .second, .val (.long bb), .second, .val (.int (2 : Int32)), .val (.ref b162), .val (.ref b164), .val (.ref b166), .val (.int (1 : Int32)), .val (.long (own_mx aa bb)), .second, .val (.int (0 : Int32)), .val (.int (own_emp (own_fgt (own_mx aa bb) hz)))] [(.int (own_emp (own_fgt (own_mx aa bb) hz)))]))
          refine own_by (fun t k => XS.lload X174.here hx rfl (hb hby at_171) rfl k) ?_
          show own_Go p.tables e below K (T174.setTop (mkF m 173 #[.val (.long c1), .second, .val (.long c2), .second, .val (.long hz), .second, .val (.long bd), .second, .val (.long po), .second, .val (.int fl), .val (.long aa), .second, .val (.long bb), .second, .val (.int (2 : Int32)), .val (.ref b162), .val (.ref b164), .val (.ref b166), .val (.int (1 : Int32)), .val (.long (own_mx aa bb)), .second, .val (.int (0 : Int32)), .val (.int (own_emp (own_fgt (own_mx aa bb) hz)))] [(.long (own_mx aa bb)), (.int (own_emp (own_fgt (own_mx aa bb) hz)))]))
          refine own_by (fun t k => XS.lload X174.here hx rfl (hb hby at_173) rfl k) ?_
          show own_Go p.tables e below K (T174.setTop (mkF m 175 #[.val (.long c1), .second, .val (.long c2), .second, .val (.long hz), .second, .val (.long bd), .second, .val (.long po), .second, .val (.int fl), .val (.long aa), .second, .val (.long bb), .second, .val (.int (2 : Int32)), .val (.ref b162), .val (.ref b164), .val (.ref b166), .val (.int (1 : Int32)), .val (.long (own_mx aa bb)), .second, .val (.int (0 : Int32)), .val (.int (own_emp (own_fgt (own_mx aa bb) hz)))] [(.long hz), (.long (own_mx aa bb)), (.int (own_emp (own_fgt (own_mx aa bb) hz)))]))
          refine own_by (fun t k => XS.lcmp X174.here hx rfl (hb hby at_175) rfl k) ?_
          show own_Go p.tables e below K (T174.setTop (mkF m 176 #[.val (.long c1), .second, .val (.long c2), .second, .val (.long hz), .second, .val (.long bd), .second, .val (.long po), .second, .val (.int fl), .val (.long aa), .second, .val (.long bb), .second, .val (.int (2 : Int32)), .val (.ref b162), .val (.ref b164), .val (.ref b166), .val (.int (1 : Int32)), .val (.long (own_mx aa bb)), .second, .val (.int (0 : Int32)), .val (.int (own_emp (own_fgt (own_mx aa bb) hz)))] [(.int (lcmpW (own_mx aa bb) hz)), (.int (own_emp (own_fgt (own_mx aa bb) hz)))]))
          by_cases hc176 : hz < (own_mx aa bb)
          · refine own_by (fun t k => XS.ifYes X174.here hx rfl (pc0 := 176) (pc' := 183) rfl (hb hby at_176) rfl (own_lgt hc176).1 (by decide) (by decide) k) ?_
            show own_Go p.tables e below K (T174.setTop (mkF m 183 #[.val (.long c1), .second, .val (.long c2), .second, .val (.long hz), .second, .val (.long bd), .second, .val (.long po), .second, .val (.int fl), .val (.long aa), .second, .val (.long bb), .second, .val (.int (2 : Int32)), .val (.ref b162), .val (.ref b164), .val (.ref b166), .val (.int (1 : Int32)), .val (.long (own_mx aa bb)), .second, .val (.int (0 : Int32)), .val (.int (own_emp (own_fgt (own_mx aa bb) hz)))] [(.int (own_emp (own_fgt (own_mx aa bb) hz)))]))
            refine own_by (fun t k => XS.iconst X174.here hx rfl (hb hby at_183) k) ?_
            show own_Go p.tables e below K (T174.setTop (mkF m 184 #[.val (.long c1), .second, .val (.long c2), .second, .val (.long hz), .second, .val (.long bd), .second, .val (.long po), .second, .val (.int fl), .val (.long aa), .second, .val (.long bb), .second, .val (.int (2 : Int32)), .val (.ref b162), .val (.ref b164), .val (.ref b166), .val (.int (1 : Int32)), .val (.long (own_mx aa bb)), .second, .val (.int (0 : Int32)), .val (.int (own_emp (own_fgt (own_mx aa bb) hz)))] [(.int (0 : Int32)), (.int (own_emp (own_fgt (own_mx aa bb) hz)))]))
            have hc184 : (own_emp (own_fgt (own_mx aa bb) hz)) = (0 : Int32) := by rw [own_e2 (own_mxp hpa), if_pos hc176]
            refine own_by (fun t k => XS.icmpNo X174.here hx rfl (hb hby at_184) rfl (teq hc184).2 k) ?_
            show own_Go p.tables e below K (T174.setTop (mkF m 187 #[.val (.long c1), .second, .val (.long c2), .second, .val (.long hz), .second, .val (.long bd), .second, .val (.long po), .second, .val (.int fl), .val (.long aa), .second, .val (.long bb), .second, .val (.int (2 : Int32)), .val (.ref b162), .val (.ref b164), .val (.ref b166), .val (.int (1 : Int32)), .val (.long (own_mx aa bb)), .second, .val (.int (0 : Int32)), .val (.int (own_emp (own_fgt (own_mx aa bb) hz)))] []))
            refine own_by (fun t k => XS.iconst X174.here hx rfl (hb hby at_187) k) ?_
            show own_Go p.tables e below K (T174.setTop (mkF m 188 #[.val (.long c1), .second, .val (.long c2), .second, .val (.long hz), .second, .val (.long bd), .second, .val (.long po), .second, .val (.int fl), .val (.long aa), .second, .val (.long bb), .second, .val (.int (2 : Int32)), .val (.ref b162), .val (.ref b164), .val (.ref b166), .val (.int (1 : Int32)), .val (.long (own_mx aa bb)), .second, .val (.int (0 : Int32)), .val (.int (own_emp (own_fgt (own_mx aa bb) hz)))] [(.int (1 : Int32))]))
            refine own_by (fun t k => XS.goto X174.here hx rfl (pc0 := 188) (pc' := 192) rfl (hb hby at_188) (by decide) (by decide) k) ?_
            show own_Go p.tables e below K (T174.setTop (mkF m 192 #[.val (.long c1), .second, .val (.long c2), .second, .val (.long hz), .second, .val (.long bd), .second, .val (.long po), .second, .val (.int fl), .val (.long aa), .second, .val (.long bb), .second, .val (.int (2 : Int32)), .val (.ref b162), .val (.ref b164), .val (.ref b166), .val (.int (1 : Int32)), .val (.long (own_mx aa bb)), .second, .val (.int (0 : Int32)), .val (.int (own_emp (own_fgt (own_mx aa bb) hz)))] [(.int (1 : Int32))]))
            exact own_retZ X174 hx (t := .boolean) hret (by simp) (hb hby at_192) (hK (some (.int (1 : Int32))) X174 (fun h => by rw [hret] at h; cases h) (⟨rfl, N174⟩) (by decide) (by decide))
          · refine own_by (fun t k => XS.ifNo X174.here hx rfl (hb hby at_176) rfl (own_lle hc176).1 k) ?_
            show own_Go p.tables e below K (T174.setTop (mkF m 179 #[.val (.long c1), .second, .val (.long c2), .second, .val (.long hz), .second, .val (.long bd), .second, .val (.long po), .second, .val (.int fl), .val (.long aa), .second, .val (.long bb), .second, .val (.int (2 : Int32)), .val (.ref b162), .val (.ref b164), .val (.ref b166), .val (.int (1 : Int32)), .val (.long (own_mx aa bb)), .second, .val (.int (0 : Int32)), .val (.int (own_emp (own_fgt (own_mx aa bb) hz)))] [(.int (own_emp (own_fgt (own_mx aa bb) hz)))]))
            refine own_by (fun t k => XS.iconst X174.here hx rfl (hb hby at_179) k) ?_
            show own_Go p.tables e below K (T174.setTop (mkF m 180 #[.val (.long c1), .second, .val (.long c2), .second, .val (.long hz), .second, .val (.long bd), .second, .val (.long po), .second, .val (.int fl), .val (.long aa), .second, .val (.long bb), .second, .val (.int (2 : Int32)), .val (.ref b162), .val (.ref b164), .val (.ref b166), .val (.int (1 : Int32)), .val (.long (own_mx aa bb)), .second, .val (.int (0 : Int32)), .val (.int (own_emp (own_fgt (own_mx aa bb) hz)))] [(.int (1 : Int32)), (.int (own_emp (own_fgt (own_mx aa bb) hz)))]))
            refine own_by (fun t k => XS.goto X174.here hx rfl (pc0 := 180) (pc' := 184) rfl (hb hby at_180) (by decide) (by decide) k) ?_
            show own_Go p.tables e below K (T174.setTop (mkF m 184 #[.val (.long c1), .second, .val (.long c2), .second, .val (.long hz), .second, .val (.long bd), .second, .val (.long po), .second, .val (.int fl), .val (.long aa), .second, .val (.long bb), .second, .val (.int (2 : Int32)), .val (.ref b162), .val (.ref b164), .val (.ref b166), .val (.int (1 : Int32)), .val (.long (own_mx aa bb)), .second, .val (.int (0 : Int32)), .val (.int (own_emp (own_fgt (own_mx aa bb) hz)))] [(.int (1 : Int32)), (.int (own_emp (own_fgt (own_mx aa bb) hz)))]))
            have hc184 : (own_emp (own_fgt (own_mx aa bb) hz)) = (1 : Int32) := by rw [own_e2 (own_mxp hpa), if_neg hc176]
            refine own_by (fun t k => XS.icmpNo X174.here hx rfl (hb hby at_184) rfl (teq hc184).2 k) ?_
            show own_Go p.tables e below K (T174.setTop (mkF m 187 #[.val (.long c1), .second, .val (.long c2), .second, .val (.long hz), .second, .val (.long bd), .second, .val (.long po), .second, .val (.int fl), .val (.long aa), .second, .val (.long bb), .second, .val (.int (2 : Int32)), .val (.ref b162), .val (.ref b164), .val (.ref b166), .val (.int (1 : Int32)), .val (.long (own_mx aa bb)), .second, .val (.int (0 : Int32)), .val (.int (own_emp (own_fgt (own_mx aa bb) hz)))] []))
            refine own_by (fun t k => XS.iconst X174.here hx rfl (hb hby at_187) k) ?_
            show own_Go p.tables e below K (T174.setTop (mkF m 188 #[.val (.long c1), .second, .val (.long c2), .second, .val (.long hz), .second, .val (.long bd), .second, .val (.long po), .second, .val (.int fl), .val (.long aa), .second, .val (.long bb), .second, .val (.int (2 : Int32)), .val (.ref b162), .val (.ref b164), .val (.ref b166), .val (.int (1 : Int32)), .val (.long (own_mx aa bb)), .second, .val (.int (0 : Int32)), .val (.int (own_emp (own_fgt (own_mx aa bb) hz)))] [(.int (1 : Int32))]))
            refine own_by (fun t k => XS.goto X174.here hx rfl (pc0 := 188) (pc' := 192) rfl (hb hby at_188) (by decide) (by decide) k) ?_
            show own_Go p.tables e below K (T174.setTop (mkF m 192 #[.val (.long c1), .second, .val (.long c2), .second, .val (.long hz), .second, .val (.long bd), .second, .val (.long po), .second, .val (.int fl), .val (.long aa), .second, .val (.long bb), .second, .val (.int (2 : Int32)), .val (.ref b162), .val (.ref b164), .val (.ref b166), .val (.int (1 : Int32)), .val (.long (own_mx aa bb)), .second, .val (.int (0 : Int32)), .val (.int (own_emp (own_fgt (own_mx aa bb) hz)))] [(.int (1 : Int32))]))
            exact own_retZ X174 hx (t := .boolean) hret (by simp) (hb hby at_192) (hK (some (.int (1 : Int32))) X174 (fun h => by rw [hret] at h; cases h) (⟨rfl, N174⟩) (by decide) (by decide))
        · show own_Go p.tables e below K (T170.setTop (mkF m 114 #[.val (.long c1), .second, .val (.long c2), .second, .val (.long hz), .second, .val (.long bd), .second, .val (.long po), .second, .val (.int fl), .val (.long aa), .second, .val (.long bb), .second, .val (.int (2 : Int32)), .val (.ref b162), .val (.ref b164), .val (.ref b166), .val (.int (1 : Int32)), .val (.long aa), .second, .unset, .unset] []))
          refine own_by (fun t k => XS.lload X170.here hx rfl (hb hby at_114) rfl k) ?_
          show own_Go p.tables e below K (T170.setTop (mkF m 116 #[.val (.long c1), .second, .val (.long c2), .second, .val (.long hz), .second, .val (.long bd), .second, .val (.long po), .second, .val (.int fl), .val (.long aa), .second, .val (.long bb), .second, .val (.int (2 : Int32)), .val (.ref b162), .val (.ref b164), .val (.ref b166), .val (.int (1 : Int32)), .val (.long aa), .second, .unset, .unset] [(.long aa)]))
          refine own_by (fun t k => XS.lload X170.here hx rfl (hb hby at_116) rfl k) ?_
          show own_Go p.tables e below K (T170.setTop (mkF m 118 #[.val (.long c1), .second, .val (.long c2), .second, .val (.long hz), .second, .val (.long bd), .second, .val (.long po), .second, .val (.int fl), .val (.long aa), .second, .val (.long bb), .second, .val (.int (2 : Int32)), .val (.ref b162), .val (.ref b164), .val (.ref b166), .val (.int (1 : Int32)), .val (.long aa), .second, .unset, .unset] [(.long bb), (.long aa)]))
          obtain ⟨_, _, ⟨T175, L175, k175, n175⟩, -, X175, ⟨Lc175, hQ175, l175, y175, z175⟩, st175⟩ := Jvm.LawKit.callS X170 hx (y := (⟨"java/lang/Math", "max", "(JJ)J"⟩ : MethodName)) hown (mvT hZ (hw _ (List.mem_of_getElem? (i := 1) rfl))) (mvT hZ (hw _ (List.mem_of_getElem? (i := 2) rfl))) (mvT hZ (hw _ (List.mem_of_getElem? (i := 3) rfl))) (mvT hZ (hw _ (List.mem_of_getElem? (i := 4) rfl))) (by decide) (backOf (W := 0) (own_rmmx l Z aw hw [] aa bb T170.heap n0 Z170) hZ (hw _ (List.mem_of_getElem? (i := 4) rfl)) (hw _ (List.mem_of_getElem? (i := 3) rfl)) (by decide) (by decide)) (g := (mkF m 118 #[.val (.long c1), .second, .val (.long c2), .second, .val (.long hz), .second, .val (.long bd), .second, .val (.long po), .second, .val (.int fl), .val (.long aa), .second, .val (.long bb), .second, .val (.int (2 : Int32)), .val (.ref b162), .val (.ref b164), .val (.ref b166), .val (.int (1 : Int32)), .val (.long aa), .second, .unset, .unset] [(.long bb), (.long aa)])) rfl (by rw [hml]; rfl) (argsL := [(.long aa), (.long bb)]) (rest := []) (lenOf own_pd6 rfl) rfl (by show 2 * 0 + _ ≤ _; exact Nat.le_of_eq rfl) (hb hby at_118) (fun _ _ => ⟨rfl, rfl, (by decide : 12 + 0 ≤ _), (by decide : 58 + 0 ≤ _)⟩)
          dsimp only [Pt.U, Pt.locs, Pt.cells, Pt.slots] at X175 l175 y175 z175 st175 hQ175
          subst l175 y175 z175
          obtain ⟨rfl, N175q, e175⟩ := hQ175
          have N175 := Fr.app N170 N175q
          refine own_by st175 ?_
          show own_Go p.tables e below K (T175.setTop (mkF m 121 #[.val (.long c1), .second, .val (.long c2), .second, .val (.long hz), .second, .val (.long bd), .second, .val (.long po), .second, .val (.int fl), .val (.long aa), .second, .val (.long bb), .second, .val (.int (2 : Int32)), .val (.ref b162), .val (.ref b164), .val (.ref b166), .val (.int (1 : Int32)), .val (.long aa), .second, .unset, .unset] [(.long (own_mx aa bb))]))
          refine own_by (fun t k => XS.lstore X175.here hx rfl (hb hby at_121) rfl (l' := #[.val (.long c1), .second, .val (.long c2), .second, .val (.long hz), .second, .val (.long bd), .second, .val (.long po), .second, .val (.int fl), .val (.long aa), .second, .val (.long bb), .second, .val (.int (2 : Int32)), .val (.ref b162), .val (.ref b164), .val (.ref b166), .val (.int (1 : Int32)), .val (.long (own_mx aa bb)), .second, .unset, .unset]) rfl k) ?_
          show own_Go p.tables e below K (T175.setTop (mkF m 123 #[.val (.long c1), .second, .val (.long c2), .second, .val (.long hz), .second, .val (.long bd), .second, .val (.long po), .second, .val (.int fl), .val (.long aa), .second, .val (.long bb), .second, .val (.int (2 : Int32)), .val (.ref b162), .val (.ref b164), .val (.ref b166), .val (.int (1 : Int32)), .val (.long (own_mx aa bb)), .second, .unset, .unset] []))
          refine own_by (fun t k => XS.aload X175.here hx rfl (hb hby at_123) rfl rfl k) ?_
          show own_Go p.tables e below K (T175.setTop (mkF m 125 #[.val (.long c1), .second, .val (.long c2), .second, .val (.long hz), .second, .val (.long bd), .second, .val (.long po), .second, .val (.int fl), .val (.long aa), .second, .val (.long bb), .second, .val (.int (2 : Int32)), .val (.ref b162), .val (.ref b164), .val (.ref b166), .val (.int (1 : Int32)), .val (.long (own_mx aa bb)), .second, .unset, .unset] [(.ref b166)]))
          obtain ⟨cq176, kq176, q176a, q176b, q176c⟩ := isOf hZ e175 Bq170.1
          obtain ⟨_, _, ⟨T176, L176, k176, n176⟩, -, X176, ⟨Lc176, hQ176, l176, y176, z176⟩, st176⟩ := X175.virtualBack hx (y := (⟨"com/example/predicate/predicate/engine/FoldedTransactions", "isEmpty", "()Z"⟩ : MethodName)) (z := (⟨"com/example/predicate/predicate/engine/FoldedTransactions", "isEmpty", "()Z"⟩ : MethodName)) hown (mvT hZ (hw _ (List.mem_of_getElem? (i := 71) rfl))) (mvT hZ (hw _ (List.mem_of_getElem? (i := 72) rfl))) (notFace_of_selects (args := #[]) (mvT hZ (hw _ (List.mem_of_getElem? (i := 74) rfl)))) (mvT hZ (hw _ (List.mem_of_getElem? (i := 74) rfl))) (mvT hZ (hw _ (List.mem_of_getElem? (i := 73) rfl))) (by decide) (backOf (W := 0) (own_rmemp l Z aw hw [] b166 (own_mx aa bb) T170.heap n0 Z170 Bq170.2.2.2.2.1) hZ (hw _ (List.mem_of_getElem? (i := 75) rfl)) (hw _ (List.mem_of_getElem? (i := 34) rfl)) (by decide) (by decide)) q176a q176c (g := (mkF m 125 #[.val (.long c1), .second, .val (.long c2), .second, .val (.long hz), .second, .val (.long bd), .second, .val (.long po), .second, .val (.int fl), .val (.long aa), .second, .val (.long bb), .second, .val (.int (2 : Int32)), .val (.ref b162), .val (.ref b164), .val (.ref b166), .val (.int (1 : Int32)), .val (.long (own_mx aa bb)), .second, .unset, .unset] [(.ref b166)])) rfl (by rw [hml]; rfl) (Steps.refl _) (argsL := []) (rest := []) (lenOf own_pd5 rfl) rfl (by show 2 * 0 + _ ≤ _; exact Nat.le_of_eq rfl) (hb hby at_125) (fun _ _ => ⟨rfl, e175, (by decide : 12 + 0 ≤ _), (by decide : 58 + 0 ≤ _)⟩)
          dsimp only [Pt.U, Pt.locs, Pt.cells, Pt.slots] at X176 l176 y176 z176 st176 hQ176
          subst l176 y176 z176
          obtain ⟨rfl, N176q, e176⟩ := hQ176
          have N176 := Fr.app N175 N176q
          refine own_by (fun t k => st176.trans k) ?_
          rw [own_empp (own_mxp hpa)]
          show own_Go p.tables e below K (T176.setTop (mkF m 128 #[.val (.long c1), .second, .val (.long c2), .second, .val (.long hz), .second, .val (.long bd), .second, .val (.long po), .second, .val (.int fl), .val (.long aa), .second, .val (.long bb), .second, .val (.int (2 : Int32)), .val (.ref b162), .val (.ref b164), .val (.ref b166), .val (.int (1 : Int32)), .val (.long (own_mx aa bb)), .second, .unset, .unset] [(.int (0 : Int32))]))
          refine own_by (fun t k => XS.istore X176.here hx rfl (hb hby at_128) rfl (l' := #[.val (.long c1), .second, .val (.long c2), .second, .val (.long hz), .second, .val (.long bd), .second, .val (.long po), .second, .val (.int fl), .val (.long aa), .second, .val (.long bb), .second, .val (.int (2 : Int32)), .val (.ref b162), .val (.ref b164), .val (.ref b166), .val (.int (1 : Int32)), .val (.long (own_mx aa bb)), .second, .val (.int (0 : Int32)), .unset]) rfl k) ?_
          show own_Go p.tables e below K (T176.setTop (mkF m 130 #[.val (.long c1), .second, .val (.long c2), .second, .val (.long hz), .second, .val (.long bd), .second, .val (.long po), .second, .val (.int fl), .val (.long aa), .second, .val (.long bb), .second, .val (.int (2 : Int32)), .val (.ref b162), .val (.ref b164), .val (.ref b166), .val (.int (1 : Int32)), .val (.long (own_mx aa bb)), .second, .val (.int (0 : Int32)), .unset] []))
          refine own_by (fun t k => XS.aload X176.here hx rfl (hb hby at_130) rfl rfl k) ?_
          show own_Go p.tables e below K (T176.setTop (mkF m 132 #[.val (.long c1), .second, .val (.long c2), .second, .val (.long hz), .second, .val (.long bd), .second, .val (.long po), .second, .val (.int fl), .val (.long aa), .second, .val (.long bb), .second, .val (.int (2 : Int32)), .val (.ref b162), .val (.ref b164), .val (.ref b166), .val (.int (1 : Int32)), .val (.long (own_mx aa bb)), .second, .val (.int (0 : Int32)), .unset] [(.ref b166)]))
          refine own_by (fun t k => XS.lload X176.here hx rfl (hb hby at_132) rfl k) ?_
          show own_Go p.tables e below K (T176.setTop (mkF m 134 #[.val (.long c1), .second, .val (.long c2), .second, .val (.long hz), .second, .val (.long bd), .second, .val (.long po), .second, .val (.int fl), .val (.long aa), .second, .val (.long bb), .second, .val (.int (2 : Int32)), .val (.ref b162), .val (.ref b164), .val (.ref b166), .val (.int (1 : Int32)), .val (.long (own_mx aa bb)), .second, .val (.int (0 : Int32)), .unset] [(.long hz), (.ref b166)]))
          obtain ⟨cq177, kq177, q177a, q177b, q177c⟩ := isOf hZ e176 Bq170.1
          obtain ⟨_, _, ⟨T177, L177, k177, n177⟩, -, X177, ⟨Lc177, hQ177, l177, y177, z177⟩, st177⟩ := X176.virtualBack hx (y := (⟨"com/example/predicate/predicate/engine/FoldedTransactions", "forgetSeenWithin", "(J)V"⟩ : MethodName)) (z := (⟨"com/example/predicate/predicate/engine/FoldedTransactions", "forgetSeenWithin", "(J)V"⟩ : MethodName)) hown (mvT hZ (hw _ (List.mem_of_getElem? (i := 173) rfl))) (mvT hZ (hw _ (List.mem_of_getElem? (i := 174) rfl))) (notFace_of_selects (args := #[]) (mvT hZ (hw _ (List.mem_of_getElem? (i := 176) rfl)))) (mvT hZ (hw _ (List.mem_of_getElem? (i := 176) rfl))) (mvT hZ (hw _ (List.mem_of_getElem? (i := 175) rfl))) (by decide) (backOf (W := 0) (own_rmfgt1 l Z aw hw [] b166 hz hm167 dq167 el167 k167c (0 : Int32) (own_mx aa bb) T170.heap n0 Z170 Bq170 gn_b166 gh167 gd167 ge167) hZ (hw _ (List.mem_of_getElem? (i := 177) rfl)) (hw _ (List.mem_of_getElem? (i := 34) rfl)) (by decide) (by decide)) q177a q177c (g := (mkF m 134 #[.val (.long c1), .second, .val (.long c2), .second, .val (.long hz), .second, .val (.long bd), .second, .val (.long po), .second, .val (.int fl), .val (.long aa), .second, .val (.long bb), .second, .val (.int (2 : Int32)), .val (.ref b162), .val (.ref b164), .val (.ref b166), .val (.int (1 : Int32)), .val (.long (own_mx aa bb)), .second, .val (.int (0 : Int32)), .unset] [(.long hz), (.ref b166)])) rfl (by rw [hml]; rfl) (Steps.refl _) (argsL := [(.long hz)]) (rest := []) (lenOf own_pd12 rfl) rfl (by show 2 * 0 + _ ≤ _; exact Nat.le_of_eq rfl) (hb hby at_134) (fun _ _ => ⟨rfl, e176, (by decide : 12 + 0 ≤ _), (by decide : 58 + 0 ≤ _)⟩)
          dsimp only [Pt.U, Pt.locs, Pt.cells, Pt.slots] at X177 l177 y177 z177 st177 hQ177
          subst l177 y177 z177
          obtain ⟨rfl, N177q, Xp177, Lp177⟩ := hQ177
          have N177 := Fr.app N176 N177q
          refine own_by (fun t k => st177.trans k) ?_
          have Zq177 : n0 ≤ T177.heap.size := Nat.le_of_lt (Nat.lt_of_le_of_lt gn_b166 Xp177.lt)
          show own_Go p.tables e below K (T177.setTop (mkF m 137 #[.val (.long c1), .second, .val (.long c2), .second, .val (.long hz), .second, .val (.long bd), .second, .val (.long po), .second, .val (.int fl), .val (.long aa), .second, .val (.long bb), .second, .val (.int (2 : Int32)), .val (.ref b162), .val (.ref b164), .val (.ref b166), .val (.int (1 : Int32)), .val (.long (own_mx aa bb)), .second, .val (.int (0 : Int32)), .unset] []))
          refine own_by (fun t k => XS.aload X177.here hx rfl (hb hby at_137) rfl rfl k) ?_
          show own_Go p.tables e below K (T177.setTop (mkF m 139 #[.val (.long c1), .second, .val (.long c2), .second, .val (.long hz), .second, .val (.long bd), .second, .val (.long po), .second, .val (.int fl), .val (.long aa), .second, .val (.long bb), .second, .val (.int (2 : Int32)), .val (.ref b162), .val (.ref b164), .val (.ref b166), .val (.int (1 : Int32)), .val (.long (own_mx aa bb)), .second, .val (.int (0 : Int32)), .unset] [(.ref b166)]))
          obtain ⟨cq178, kq178, q178a, q178b, q178c⟩ := isOf hZ rfl Xp177
          obtain ⟨_, _, ⟨T178, L178, k178, n178⟩, -, X178, ⟨Lc178, hQ178, l178, y178, z178⟩, st178⟩ := X177.virtualBack hx (y := (⟨"com/example/predicate/predicate/engine/FoldedTransactions", "isEmpty", "()Z"⟩ : MethodName)) (z := (⟨"com/example/predicate/predicate/engine/FoldedTransactions", "isEmpty", "()Z"⟩ : MethodName)) hown (mvT hZ (hw _ (List.mem_of_getElem? (i := 71) rfl))) (mvT hZ (hw _ (List.mem_of_getElem? (i := 72) rfl))) (notFace_of_selects (args := #[]) (mvT hZ (hw _ (List.mem_of_getElem? (i := 74) rfl)))) (mvT hZ (hw _ (List.mem_of_getElem? (i := 74) rfl))) (mvT hZ (hw _ (List.mem_of_getElem? (i := 73) rfl))) (by decide) (backOf (W := 0) (own_rmemp l Z aw hw [] b166 (own_fgt (own_mx aa bb) hz) T177.heap n0 Zq177 Lp177) hZ (hw _ (List.mem_of_getElem? (i := 75) rfl)) (hw _ (List.mem_of_getElem? (i := 34) rfl)) (by decide) (by decide)) q178a q178c (g := (mkF m 139 #[.val (.long c1), .second, .val (.long c2), .second, .val (.long hz), .second, .val (.long bd), .second, .val (.long po), .second, .val (.int fl), .val (.long aa), .second, .val (.long bb), .second, .val (.int (2 : Int32)), .val (.ref b162), .val (.ref b164), .val (.ref b166), .val (.int (1 : Int32)), .val (.long (own_mx aa bb)), .second, .val (.int (0 : Int32)), .unset] [(.ref b166)])) rfl (by rw [hml]; rfl) (Steps.refl _) (argsL := []) (rest := []) (lenOf own_pd5 rfl) rfl (by show 2 * 0 + _ ≤ _; exact Nat.le_of_eq rfl) (hb hby at_139) (fun _ _ => ⟨rfl, rfl, (by decide : 12 + 0 ≤ _), (by decide : 58 + 0 ≤ _)⟩)
          dsimp only [Pt.U, Pt.locs, Pt.cells, Pt.slots] at X178 l178 y178 z178 st178 hQ178
          subst l178 y178 z178
          obtain ⟨rfl, N178q, e178⟩ := hQ178
          have N178 := Fr.app N177 N178q
          refine own_by (fun t k => st178.trans k) ?_
          show own_Go p.tables e below K (T178.setTop (mkF m 142 #[.val (.long c1), .second, .val (.long c2), .second, .val (.long hz), .second, .val (.long bd), .second, .val (.long po), .second, .val (.int fl), .val (.long aa), .second, .val (.long bb), .second, .val (.int (2 : Int32)), .val (.ref b162), .val (.ref b164), .val (.ref b166), .val (.int (1 : Int32)), .val (.long (own_mx aa bb)), .second, .val (.int (0 : Int32)), .unset] [(.int (own_emp (own_fgt (own_mx aa bb) hz)))]))
          refine own_by (fun t k => XS.istore X178.here hx rfl (hb hby at_142) rfl (l' := #[.val (.long c1), .second, .val (.long c2), .second, .val (.long hz), .second, .val (.long bd), .second, .val (.long po), .second, .val (.int fl), .val (.long aa), .second, .val (.long bb), .second, .val (.int (2 : Int32)), .val (.ref b162), .val (.ref b164), .val (.ref b166), .val (.int (1 : Int32)), .val (.long (own_mx aa bb)), .second, .val (.int (0 : Int32)), .val (.int (own_emp (own_fgt (own_mx aa bb) hz)))]) rfl k) ?_
          show own_Go p.tables e below K (T178.setTop (mkF m 144 #[.val (.long c1), .second, .val (.long c2), .second, .val (.long hz), .second, .val (.long bd), .second, .val (.long po), .second, .val (.int fl), .val (.long aa), .second, .val (.long bb), .second, .val (.int (2 : Int32)), .val (.ref b162), .val (.ref b164), .val (.ref b166), .val (.int (1 : Int32)), .val (.long (own_mx aa bb)), .second, .val (.int (0 : Int32)), .val (.int (own_emp (own_fgt (own_mx aa bb) hz)))] []))
          refine own_by (fun t k => XS.iload X178.here hx rfl (hb hby at_144) rfl k) ?_
          show own_Go p.tables e below K (T178.setTop (mkF m 146 #[.val (.long c1), .second, .val (.long c2), .second, .val (.long hz), .second, .val (.long bd), .second, .val (.long po), .second, .val (.int fl), .val (.long aa), .second, .val (.long bb), .second, .val (.int (2 : Int32)), .val (.ref b162), .val (.ref b164), .val (.ref b166), .val (.int (1 : Int32)), .val (.long (own_mx aa bb)), .second, .val (.int (0 : Int32)), .val (.int (own_emp (own_fgt (own_mx aa bb) hz)))] [(.int (1 : Int32))]))
          have hc146 : ¬ ((1 : Int32) = (0 : Int32)) := by decide
          refine own_by (fun t k => XS.ifNo X178.here hx rfl (hb hby at_146) rfl ((if0 _ _).trans (feq hc146).1) k) ?_
          show own_Go p.tables e below K (T178.setTop (mkF m 149 #[.val (.long c1), .second, .val (.long c2), .second, .val (.long hz), .second, .val (.long bd), .second, .val (.long po), .second, .val (.int fl), .val (.long aa), .second, .val (.long bb), .second, .val (.int (2 : Int32)), .val (.ref b162), .val (.ref b164), .val (.ref b166), .val (.int (1 : Int32)), .val (.long (own_mx aa bb)), .second, .val (.int (0 : Int32)), .val (.int (own_emp (own_fgt (own_mx aa bb) hz)))] []))
          refine own_by (fun t k => XS.iload X178.here hx rfl (hb hby at_149) rfl k) ?_
          show own_Go p.tables e below K (T178.setTop (mkF m 151 #[.val (.long c1), .second, .val (.long c2), .second, .val (.long hz), .second, .val (.long bd), .second, .val (.long po), .second, .val (.int fl), .val (.long aa), .second, .val (.long bb), .second, .val (.int (2 : Int32)), .val (.ref b162), .val (.ref b164), .val (.ref b166), .val (.int (1 : Int32)), .val (.long (own_mx aa bb)), .second, .val (.int (0 : Int32)), .val (.int (own_emp (own_fgt (own_mx aa bb) hz)))] [(.int (0 : Int32))]))
          refine own_by (fun t k => XS.iload X178.here hx rfl (hb hby at_151) rfl k) ?_
          show own_Go p.tables e below K (T178.setTop (mkF m 153 #[.val (.long c1), .second, .val (.long c2), .second, .val (.long hz), .second, .val (.long bd), .second, .val (.long po), .second, .val (.int fl), .val (.long aa), .second, .val (.long bb), .second, .val (.int (2 : Int32)), .val (.ref b162), .val (.ref b164), .val (.ref b166), .val (.int (1 : Int32)), .val (.long (own_mx aa bb)), .second, .val (.int (0 : Int32)), .val (.int (own_emp (own_fgt (own_mx aa bb) hz)))] [(.int (2 : Int32)), (.int (0 : Int32))]))
          have hc153 : ¬ ((2 : Int32) = (0 : Int32)) := by decide
          refine own_by (fun t k => XS.ifYes X178.here hx rfl (pc0 := 153) (pc' := 160) rfl (hb hby at_153) rfl ((if0 _ _).trans (feq hc153).2) (by decide) (by decide) k) ?_
          show own_Go p.tables e below K (T178.setTop (mkF m 160 #[.val (.long c1), .second, .val (.long c2), .second, .val (.long hz), .second, .val (.long bd), .second, .val (.long po), .second, .val (.int fl), .val (.long aa), .second, .val (.long bb), .second, .val (.int (2 : Int32)), .val (.ref b162), .val (.ref b164), .val (.ref b166), .val (.int (1 : Int32)), .val (.long (own_mx aa bb)), .second, .val (.int (0 : Int32)), .val (.int (own_emp (own_fgt (own_mx aa bb) hz)))] [(.int (0 : Int32))]))
          refine own_by (fun t k => XS.iconst X178.here hx rfl (hb hby at_160) k) ?_
          show own_Go p.tables e below K (T178.setTop (mkF m 161 #[.val (.long c1), .second, .val (.long c2), .second, .val (.long hz), .second, .val (.long bd), .second, .val (.long po), .second, .val (.int fl), .val (.long aa), .second, .val (.long bb), .second, .val (.int (2 : Int32)), .val (.ref b162), .val (.ref b164), .val (.ref b166), .val (.int (1 : Int32)), .val (.long (own_mx aa bb)), .second, .val (.int (0 : Int32)), .val (.int (own_emp (own_fgt (own_mx aa bb) hz)))] [(.int (0 : Int32)), (.int (0 : Int32))]))
          have hc161 : (0 : Int32) = (0 : Int32) := by decide
          refine own_by (fun t k => XS.icmpNo X178.here hx rfl (hb hby at_161) rfl (teq hc161).2 k) ?_
          show own_Go p.tables e below K (T178.setTop (mkF m 164 #[.val (.long c1), .second, .val (.long c2), .second, .val (.long hz), .second, .val (.long bd), .second, .val (.long po), .second, .val (.int fl), .val (.long aa), .second, .val (.long bb), .second, .val (.int (2 : Int32)), .val (.ref b162), .val (.ref b164), .val (.ref b166), .val (.int (1 : Int32)), .val (.long (own_mx aa bb)), .second, .val (.int (0 : Int32)), .val (.int (own_emp (own_fgt (own_mx aa bb) hz)))] []))
          refine own_by (fun t k => XS.iload X178.here hx rfl (hb hby at_164) rfl k) ?_
          show own_Go p.tables e below K (T178.setTop (mkF m 166 #[.val (.long c1), .second, .val (.long c2), .second, .val (.long hz), .second, .val (.long bd), .second, .val (.long po), .second, .val (.int fl), .val (.long aa), .second, .val (.long bb), .second, .val (.int (2 : Int32)), .val (.ref b162), .val (.ref b164), .val (.ref b166), .val (.int (1 : Int32)), .val (.long (own_mx aa bb)), .second, .val (.int (0 : Int32)), .val (.int (own_emp (own_fgt (own_mx aa bb) hz)))] [(.int (own_emp (own_fgt (own_mx aa bb) hz)))]))
          refine own_by (fun t k => XS.iload X178.here hx rfl (hb hby at_166) rfl k) ?_
          show own_Go p.tables e below K (T178.setTop (mkF m 168 #[.val (.long c1), .second, .val (.long c2), .second, .val (.long hz), .second, .val (.long bd), .second, .val (.long po), .second, .val (.int fl), .val (.long aa), .second, .val (.long bb), .second, .val (.int (2 : Int32)), .val (.ref b162), .val (.ref b164), .val (.ref b166), .val (.int (1 : Int32)), .val (.long (own_mx aa bb)), .second, .val (.int (0 : Int32)), .val (.int (own_emp (own_fgt (own_mx aa bb) hz)))] [(.int (2 : Int32)), (.int (own_emp (own_fgt (own_mx aa bb) hz)))]))
          have hc168 : ¬ ((2 : Int32) = (0 : Int32)) := by decide
          refine own_by (fun t k => XS.ifNo X178.here hx rfl (hb hby at_168) rfl ((if0 _ _).trans (feq hc168).1) k) ?_
          show own_Go p.tables e below K (T178.setTop (mkF m 171 #[.val (.long c1), .second, .val (.long c2), .second, .val (.long hz), .second, .val (.long bd), .second, .val (.long po), .second, .val (.int fl), .val (.long aa), .second, .val (.long bb), .second, .val (.int (2 : Int32)), .val (.ref b162), .val (.ref b164), .val (.ref b166), .val (.int (1 : Int32)), .val (.long (own_mx aa bb)), .second, .val (.int (0 : Int32)), .val (.int (own_emp (own_fgt (own_mx aa bb) hz)))] [(.int (own_emp (own_fgt (own_mx aa bb) hz)))]))
          refine own_by (fun t k => XS.lload X178.here hx rfl (hb hby at_171) rfl k) ?_
          show own_Go p.tables e below K (T178.setTop (mkF m 173 #[.val (.long c1), .second, .val (.long c2), .second, .val (.long hz), .second, .val (.long bd), .second, .val (.long po), .second, .val (.int fl), .val (.long aa), .second, .val (.long bb), .second, .val (.int (2 : Int32)), .val (.ref b162), .val (.ref b164), .val (.ref b166), .val (.int (1 : Int32)), .val (.long (own_mx aa bb)), .second, .val (.int (0 : Int32)), .val (.int (own_emp (own_fgt (own_mx aa bb) hz)))] [(.long (own_mx aa bb)), (.int (own_emp (own_fgt (own_mx aa bb) hz)))]))
          refine own_by (fun t k => XS.lload X178.here hx rfl (hb hby at_173) rfl k) ?_
          show own_Go p.tables e below K (T178.setTop (mkF m 175 #[.val (.long c1), .second, .val (.long c2), .second, .val (.long hz), .second, .val (.long bd), .second, .val (.long po), .second, .val (.int fl), .val (.long aa), .second, .val (.long bb), .second, .val (.int (2 : Int32)), .val (.ref b162), .val (.ref b164), .val (.ref b166), .val (.int (1 : Int32)), .val (.long (own_mx aa bb)), .second, .val (.int (0 : Int32)), .val (.int (own_emp (own_fgt (own_mx aa bb) hz)))] [(.long hz), (.long (own_mx aa bb)), (.int (own_emp (own_fgt (own_mx aa bb) hz)))]))
          refine own_by (fun t k => XS.lcmp X178.here hx rfl (hb hby at_175) rfl k) ?_
          show own_Go p.tables e below K (T178.setTop (mkF m 176 #[.val (.long c1), .second, .val (.long c2), .second, .val (.long hz), .second, .val (.long bd), .second, .val (.long po), .second, .val (.int fl), .val (.long aa), .second, .val (.long bb), .second, .val (.int (2 : Int32)), .val (.ref b162), .val (.ref b164), .val (.ref b166), .val (.int (1 : Int32)), .val (.long (own_mx aa bb)), .second, .val (.int (0 : Int32)), .val (.int (own_emp (own_fgt (own_mx aa bb) hz)))] [(.int (lcmpW (own_mx aa bb) hz)), (.int (own_emp (own_fgt (own_mx aa bb) hz)))]))
          by_cases hc176 : hz < (own_mx aa bb)
          · refine own_by (fun t k => XS.ifYes X178.here hx rfl (pc0 := 176) (pc' := 183) rfl (hb hby at_176) rfl (own_lgt hc176).1 (by decide) (by decide) k) ?_
            show own_Go p.tables e below K (T178.setTop (mkF m 183 #[.val (.long c1), .second, .val (.long c2), .second, .val (.long hz), .second, .val (.long bd), .second, .val (.long po), .second, .val (.int fl), .val (.long aa), .second, .val (.long bb), .second, .val (.int (2 : Int32)), .val (.ref b162), .val (.ref b164), .val (.ref b166), .val (.int (1 : Int32)), .val (.long (own_mx aa bb)), .second, .val (.int (0 : Int32)), .val (.int (own_emp (own_fgt (own_mx aa bb) hz)))] [(.int (own_emp (own_fgt (own_mx aa bb) hz)))]))
            refine own_by (fun t k => XS.iconst X178.here hx rfl (hb hby at_183) k) ?_
            show own_Go p.tables e below K (T178.setTop (mkF m 184 #[.val (.long c1), .second, .val (.long c2), .second, .val (.long hz), .second, .val (.long bd), .second, .val (.long po), .second, .val (.int fl), .val (.long aa), .second, .val (.long bb), .second, .val (.int (2 : Int32)), .val (.ref b162), .val (.ref b164), .val (.ref b166), .val (.int (1 : Int32)), .val (.long (own_mx aa bb)), .second, .val (.int (0 : Int32)), .val (.int (own_emp (own_fgt (own_mx aa bb) hz)))] [(.int (0 : Int32)), (.int (own_emp (own_fgt (own_mx aa bb) hz)))]))
            have hc184 : (own_emp (own_fgt (own_mx aa bb) hz)) = (0 : Int32) := by rw [own_e2 (own_mxp hpa), if_pos hc176]
            refine own_by (fun t k => XS.icmpNo X178.here hx rfl (hb hby at_184) rfl (teq hc184).2 k) ?_
            show own_Go p.tables e below K (T178.setTop (mkF m 187 #[.val (.long c1), .second, .val (.long c2), .second, .val (.long hz), .second, .val (.long bd), .second, .val (.long po), .second, .val (.int fl), .val (.long aa), .second, .val (.long bb), .second, .val (.int (2 : Int32)), .val (.ref b162), .val (.ref b164), .val (.ref b166), .val (.int (1 : Int32)), .val (.long (own_mx aa bb)), .second, .val (.int (0 : Int32)), .val (.int (own_emp (own_fgt (own_mx aa bb) hz)))] []))
            refine own_by (fun t k => XS.iconst X178.here hx rfl (hb hby at_187) k) ?_
            show own_Go p.tables e below K (T178.setTop (mkF m 188 #[.val (.long c1), .second, .val (.long c2), .second, .val (.long hz), .second, .val (.long bd), .second, .val (.long po), .second, .val (.int fl), .val (.long aa), .second, .val (.long bb), .second, .val (.int (2 : Int32)), .val (.ref b162), .val (.ref b164), .val (.ref b166), .val (.int (1 : Int32)), .val (.long (own_mx aa bb)), .second, .val (.int (0 : Int32)), .val (.int (own_emp (own_fgt (own_mx aa bb) hz)))] [(.int (1 : Int32))]))
            refine own_by (fun t k => XS.goto X178.here hx rfl (pc0 := 188) (pc' := 192) rfl (hb hby at_188) (by decide) (by decide) k) ?_
            show own_Go p.tables e below K (T178.setTop (mkF m 192 #[.val (.long c1), .second, .val (.long c2), .second, .val (.long hz), .second, .val (.long bd), .second, .val (.long po), .second, .val (.int fl), .val (.long aa), .second, .val (.long bb), .second, .val (.int (2 : Int32)), .val (.ref b162), .val (.ref b164), .val (.ref b166), .val (.int (1 : Int32)), .val (.long (own_mx aa bb)), .second, .val (.int (0 : Int32)), .val (.int (own_emp (own_fgt (own_mx aa bb) hz)))] [(.int (1 : Int32))]))
            exact own_retZ X178 hx (t := .boolean) hret (by simp) (hb hby at_192) (hK (some (.int (1 : Int32))) X178 (fun h => by rw [hret] at h; cases h) (⟨rfl, N178⟩) (by decide) (by decide))
          · refine own_by (fun t k => XS.ifNo X178.here hx rfl (hb hby at_176) rfl (own_lle hc176).1 k) ?_
            show own_Go p.tables e below K (T178.setTop (mkF m 179 #[.val (.long c1), .second, .val (.long c2), .second, .val (.long hz), .second, .val (.long bd), .second, .val (.long po), .second, .val (.int fl), .val (.long aa), .second, .val (.long bb), .second, .val (.int (2 : Int32)), .val (.ref b162), .val (.ref b164), .val (.ref b166), .val (.int (1 : Int32)), .val (.long (own_mx aa bb)), .second, .val (.int (0 : Int32)), .val (.int (own_emp (own_fgt (own_mx aa bb) hz)))] [(.int (own_emp (own_fgt (own_mx aa bb) hz)))]))
            refine own_by (fun t k => XS.iconst X178.here hx rfl (hb hby at_179) k) ?_
            show own_Go p.tables e below K (T178.setTop (mkF m 180 #[.val (.long c1), .second, .val (.long c2), .second, .val (.long hz), .second, .val (.long bd), .second, .val (.long po), .second, .val (.int fl), .val (.long aa), .second, .val (.long bb), .second, .val (.int (2 : Int32)), .val (.ref b162), .val (.ref b164), .val (.ref b166), .val (.int (1 : Int32)), .val (.long (own_mx aa bb)), .second, .val (.int (0 : Int32)), .val (.int (own_emp (own_fgt (own_mx aa bb) hz)))] [(.int (1 : Int32)), (.int (own_emp (own_fgt (own_mx aa bb) hz)))]))
            refine own_by (fun t k => XS.goto X178.here hx rfl (pc0 := 180) (pc' := 184) rfl (hb hby at_180) (by decide) (by decide) k) ?_
            show own_Go p.tables e below K (T178.setTop (mkF m 184 #[.val (.long c1), .second, .val (.long c2), .second, .val (.long hz), .second, .val (.long bd), .second, .val (.long po), .second, .val (.int fl), .val (.long aa), .second, .val (.long bb), .second, .val (.int (2 : Int32)), .val (.ref b162), .val (.ref b164), .val (.ref b166), .val (.int (1 : Int32)), .val (.long (own_mx aa bb)), .second, .val (.int (0 : Int32)), .val (.int (own_emp (own_fgt (own_mx aa bb) hz)))] [(.int (1 : Int32)), (.int (own_emp (own_fgt (own_mx aa bb) hz)))]))
            have hc184 : (own_emp (own_fgt (own_mx aa bb) hz)) = (1 : Int32) := by rw [own_e2 (own_mxp hpa), if_neg hc176]
            refine own_by (fun t k => XS.icmpNo X178.here hx rfl (hb hby at_184) rfl (teq hc184).2 k) ?_
            show own_Go p.tables e below K (T178.setTop (mkF m 187 #[.val (.long c1), .second, .val (.long c2), .second, .val (.long hz), .second, .val (.long bd), .second, .val (.long po), .second, .val (.int fl), .val (.long aa), .second, .val (.long bb), .second, .val (.int (2 : Int32)), .val (.ref b162), .val (.ref b164), .val (.ref b166), .val (.int (1 : Int32)), .val (.long (own_mx aa bb)), .second, .val (.int (0 : Int32)), .val (.int (own_emp (own_fgt (own_mx aa bb) hz)))] []))
            refine own_by (fun t k => XS.iconst X178.here hx rfl (hb hby at_187) k) ?_
            show own_Go p.tables e below K (T178.setTop (mkF m 188 #[.val (.long c1), .second, .val (.long c2), .second, .val (.long hz), .second, .val (.long bd), .second, .val (.long po), .second, .val (.int fl), .val (.long aa), .second, .val (.long bb), .second, .val (.int (2 : Int32)), .val (.ref b162), .val (.ref b164), .val (.ref b166), .val (.int (1 : Int32)), .val (.long (own_mx aa bb)), .second, .val (.int (0 : Int32)), .val (.int (own_emp (own_fgt (own_mx aa bb) hz)))] [(.int (1 : Int32))]))
            refine own_by (fun t k => XS.goto X178.here hx rfl (pc0 := 188) (pc' := 192) rfl (hb hby at_188) (by decide) (by decide) k) ?_
            show own_Go p.tables e below K (T178.setTop (mkF m 192 #[.val (.long c1), .second, .val (.long c2), .second, .val (.long hz), .second, .val (.long bd), .second, .val (.long po), .second, .val (.int fl), .val (.long aa), .second, .val (.long bb), .second, .val (.int (2 : Int32)), .val (.ref b162), .val (.ref b164), .val (.ref b166), .val (.int (1 : Int32)), .val (.long (own_mx aa bb)), .second, .val (.int (0 : Int32)), .val (.int (own_emp (own_fgt (own_mx aa bb) hz)))] [(.int (1 : Int32))]))
            exact own_retZ X178 hx (t := .boolean) hret (by simp) (hb hby at_192) (hK (some (.int (1 : Int32))) X178 (fun h => by rw [hret] at h; cases h) (⟨rfl, N178⟩) (by decide) (by decide))
      · show own_Go p.tables e below K (T169.setTop (mkF m 89 #[.val (.long c1), .second, .val (.long c2), .second, .val (.long hz), .second, .val (.long bd), .second, .val (.long po), .second, .val (.int fl), .val (.long aa), .second, .val (.long bb), .second, .val (.int (2 : Int32)), .val (.ref b162), .val (.ref b164), .val (.ref b166), .val (.int (1 : Int32)), .val (.long (0 : Int64)), .second, .unset, .unset] []))
        refine own_by (fun t k => XS.lload X169.here hx rfl (hb hby at_89) rfl k) ?_
        show own_Go p.tables e below K (T169.setTop (mkF m 91 #[.val (.long c1), .second, .val (.long c2), .second, .val (.long hz), .second, .val (.long bd), .second, .val (.long po), .second, .val (.int fl), .val (.long aa), .second, .val (.long bb), .second, .val (.int (2 : Int32)), .val (.ref b162), .val (.ref b164), .val (.ref b166), .val (.int (1 : Int32)), .val (.long (0 : Int64)), .second, .unset, .unset] [(.long aa)]))
        refine own_by (fun t k => XS.lstore X169.here hx rfl (hb hby at_91) rfl (l' := #[.val (.long c1), .second, .val (.long c2), .second, .val (.long hz), .second, .val (.long bd), .second, .val (.long po), .second, .val (.int fl), .val (.long aa), .second, .val (.long bb), .second, .val (.int (2 : Int32)), .val (.ref b162), .val (.ref b164), .val (.ref b166), .val (.int (1 : Int32)), .val (.long aa), .second, .unset, .unset]) rfl k) ?_
        show own_Go p.tables e below K (T169.setTop (mkF m 93 #[.val (.long c1), .second, .val (.long c2), .second, .val (.long hz), .second, .val (.long bd), .second, .val (.long po), .second, .val (.int fl), .val (.long aa), .second, .val (.long bb), .second, .val (.int (2 : Int32)), .val (.ref b162), .val (.ref b164), .val (.ref b166), .val (.int (1 : Int32)), .val (.long aa), .second, .unset, .unset] []))
        refine own_by (fun t k => XS.iload X169.here hx rfl (hb hby at_93) rfl k) ?_
        show own_Go p.tables e below K (T169.setTop (mkF m 95 #[.val (.long c1), .second, .val (.long c2), .second, .val (.long hz), .second, .val (.long bd), .second, .val (.long po), .second, .val (.int fl), .val (.long aa), .second, .val (.long bb), .second, .val (.int (2 : Int32)), .val (.ref b162), .val (.ref b164), .val (.ref b166), .val (.int (1 : Int32)), .val (.long aa), .second, .unset, .unset] [(.int (2 : Int32))]))
        refine own_by (fun t k => XS.iconst X169.here hx rfl (hb hby at_95) k) ?_
        show own_Go p.tables e below K (T169.setTop (mkF m 96 #[.val (.long c1), .second, .val (.long c2), .second, .val (.long hz), .second, .val (.long bd), .second, .val (.long po), .second, .val (.int fl), .val (.long aa), .second, .val (.long bb), .second, .val (.int (2 : Int32)), .val (.ref b162), .val (.ref b164), .val (.ref b166), .val (.int (1 : Int32)), .val (.long aa), .second, .unset, .unset] [(.int (2 : Int32)), (.int (2 : Int32))]))
        have hc96 : ¬ ((2 : Int32) < (2 : Int32)) := by decide
        refine own_by (fun t k => XS.icmpNo X169.here hx rfl (hb hby at_96) rfl (flt hc96).1 k) ?_
        show own_Go p.tables e below K (T169.setTop (mkF m 99 #[.val (.long c1), .second, .val (.long c2), .second, .val (.long hz), .second, .val (.long bd), .second, .val (.long po), .second, .val (.int fl), .val (.long aa), .second, .val (.long bb), .second, .val (.int (2 : Int32)), .val (.ref b162), .val (.ref b164), .val (.ref b166), .val (.int (1 : Int32)), .val (.long aa), .second, .unset, .unset] []))
        refine own_by (fun t k => XS.aload X169.here hx rfl (hb hby at_99) rfl rfl k) ?_
        show own_Go p.tables e below K (T169.setTop (mkF m 101 #[.val (.long c1), .second, .val (.long c2), .second, .val (.long hz), .second, .val (.long bd), .second, .val (.long po), .second, .val (.int fl), .val (.long aa), .second, .val (.long bb), .second, .val (.int (2 : Int32)), .val (.ref b162), .val (.ref b164), .val (.ref b166), .val (.int (1 : Int32)), .val (.long aa), .second, .unset, .unset] [(.ref b166)]))
        refine own_by (fun t k => XS.aload X169.here hx rfl (hb hby at_101) rfl rfl k) ?_
        show own_Go p.tables e below K (T169.setTop (mkF m 103 #[.val (.long c1), .second, .val (.long c2), .second, .val (.long hz), .second, .val (.long bd), .second, .val (.long po), .second, .val (.int fl), .val (.long aa), .second, .val (.long bb), .second, .val (.int (2 : Int32)), .val (.ref b162), .val (.ref b164), .val (.ref b166), .val (.int (1 : Int32)), .val (.long aa), .second, .unset, .unset] [(.ref b162), (.ref b166)]))
        refine own_by (fun t k => XS.aload X169.here hx rfl (hb hby at_103) rfl rfl k) ?_
        show own_Go p.tables e below K (T169.setTop (mkF m 105 #[.val (.long c1), .second, .val (.long c2), .second, .val (.long hz), .second, .val (.long bd), .second, .val (.long po), .second, .val (.int fl), .val (.long aa), .second, .val (.long bb), .second, .val (.int (2 : Int32)), .val (.ref b162), .val (.ref b164), .val (.ref b166), .val (.int (1 : Int32)), .val (.long aa), .second, .unset, .unset] [(.ref b164), (.ref b162), (.ref b166)]))
        refine own_by (fun t k => XS.lload X169.here hx rfl (hb hby at_105) rfl k) ?_
        show own_Go p.tables e below K (T169.setTop (mkF m 107 #[.val (.long c1), .second, .val (.long c2), .second, .val (.long hz), .second, .val (.long bd), .second, .val (.long po), .second, .val (.int fl), .val (.long aa), .second, .val (.long bb), .second, .val (.int (2 : Int32)), .val (.ref b162), .val (.ref b164), .val (.ref b166), .val (.int (1 : Int32)), .val (.long aa), .second, .unset, .unset] [(.long bb), (.ref b164), (.ref b162), (.ref b166)]))
        refine own_by (fun t k => XS.lload X169.here hx rfl (hb hby at_107) rfl k) ?_
        show own_Go p.tables e below K (T169.setTop (mkF m 109 #[.val (.long c1), .second, .val (.long c2), .second, .val (.long hz), .second, .val (.long bd), .second, .val (.long po), .second, .val (.int fl), .val (.long aa), .second, .val (.long bb), .second, .val (.int (2 : Int32)), .val (.ref b162), .val (.ref b164), .val (.ref b166), .val (.int (1 : Int32)), .val (.long aa), .second, .unset, .unset] [(.long bd), (.long bb), (.ref b164), (.ref b162), (.ref b166)]))
        refine own_by (fun t k => XS.lload X169.here hx rfl (hb hby at_109) rfl k) ?_
        show own_Go p.tables e below K (T169.setTop (mkF m 111 #[.val (.long c1), .second, .val (.long c2), .second, .val (.long hz), .second, .val (.long bd), .second, .val (.long po), .second, .val (.int fl), .val (.long aa), .second, .val (.long bb), .second, .val (.int (2 : Int32)), .val (.ref b162), .val (.ref b164), .val (.ref b166), .val (.int (1 : Int32)), .val (.long aa), .second, .unset, .unset] [(.long po), (.long bd), (.long bb), (.ref b164), (.ref b162), (.ref b166)]))
        obtain ⟨cq179, kq179, q179a, q179b, q179c⟩ := isOf hZ rfl Bq169.1
        obtain ⟨_, _, ⟨T179, L179, k179, n179⟩, -, X179, ⟨Lc179, hQ179, l179, y179, z179⟩, st179⟩ := X169.virtualBack hx (y := (⟨"com/example/predicate/predicate/engine/FoldedTransactions", "add", "(Ljava/util/List;Ljava/util/List;JJJ)V"⟩ : MethodName)) (z := (⟨"com/example/predicate/predicate/engine/FoldedTransactions", "add", "(Ljava/util/List;Ljava/util/List;JJJ)V"⟩ : MethodName)) hown (mvT hZ (hw _ (List.mem_of_getElem? (i := 78) rfl))) (mvT hZ (hw _ (List.mem_of_getElem? (i := 79) rfl))) (notFace_of_selects (args := #[]) (mvT hZ (hw _ (List.mem_of_getElem? (i := 81) rfl)))) (mvT hZ (hw _ (List.mem_of_getElem? (i := 81) rfl))) (mvT hZ (hw _ (List.mem_of_getElem? (i := 80) rfl))) (by decide) (backOf (W := 0) (own_rmfadd1 l Z aw hw [] b166 b162 b164 bb bd po hm167 dq167 el167 k167c (0 : Int32) aa T169.heap n0 Z169 Bq169 ⟨Ex169_b162, F169_modCount_b162, F169_size_b162⟩ ⟨Ex169_b164, F169_modCount_b164, F169_size_b164⟩ gn_b166 gh167 gd167 ge167) hZ (hw _ (List.mem_of_getElem? (i := 82) rfl)) (hw _ (List.mem_of_getElem? (i := 34) rfl)) (by decide) (by decide)) q179a q179c (g := (mkF m 111 #[.val (.long c1), .second, .val (.long c2), .second, .val (.long hz), .second, .val (.long bd), .second, .val (.long po), .second, .val (.int fl), .val (.long aa), .second, .val (.long bb), .second, .val (.int (2 : Int32)), .val (.ref b162), .val (.ref b164), .val (.ref b166), .val (.int (1 : Int32)), .val (.long aa), .second, .unset, .unset] [(.long po), (.long bd), (.long bb), (.ref b164), (.ref b162), (.ref b166)])) rfl (by rw [hml]; rfl) (Steps.refl _) (argsL := [(.ref b162), (.ref b164), (.long bb), (.long bd), (.long po)]) (rest := []) (lenOf own_pd13 rfl) rfl (by show 2 * 0 + _ ≤ _; exact Nat.le_of_eq rfl) (hb hby at_111) (fun _ _ => ⟨rfl, rfl, (by decide : 9 + 3 ≤ _), (by decide : 48 + 10 ≤ _)⟩)
        dsimp only [Pt.U, Pt.locs, Pt.cells, Pt.slots] at X179 l179 y179 z179 st179 hQ179
        subst l179 y179 z179
        obtain ⟨rfl, N179q, Kp179, Bq179⟩ := hQ179
        have N179 := Fr.app N169 N179q
        refine own_by (fun t k => st179.trans k) ?_
        have F179_modCount_b162 := F169_modCount_b162.keep Kp179 (ninS (Exa.ne Ex169_b162 Bq169.1 (by decide)) (ninS (Exa.ne Ex169_b162 Bq169.2.2.2.2.2.2.1 (by decide)) (ninS (own_Ar.ne Ex169_b162 Bq169.2.2.2.2.2.2.2.2.2.2.1 (hw _ (List.mem_of_getElem? (i := 7) rfl))) nin0)))
        have F179_size_b162 := F169_size_b162.keep Kp179 (ninS (Exa.ne Ex169_b162 Bq169.1 (by decide)) (ninS (Exa.ne Ex169_b162 Bq169.2.2.2.2.2.2.1 (by decide)) (ninS (own_Ar.ne Ex169_b162 Bq169.2.2.2.2.2.2.2.2.2.2.1 (hw _ (List.mem_of_getElem? (i := 7) rfl))) nin0)))
        have F179_modCount_b164 := F169_modCount_b164.keep Kp179 (ninS (Exa.ne Ex169_b164 Bq169.1 (by decide)) (ninS (Exa.ne Ex169_b164 Bq169.2.2.2.2.2.2.1 (by decide)) (ninS (own_Ar.ne Ex169_b164 Bq169.2.2.2.2.2.2.2.2.2.2.1 (hw _ (List.mem_of_getElem? (i := 7) rfl))) nin0)))
        have F179_size_b164 := F169_size_b164.keep Kp179 (ninS (Exa.ne Ex169_b164 Bq169.1 (by decide)) (ninS (Exa.ne Ex169_b164 Bq169.2.2.2.2.2.2.1 (by decide)) (ninS (own_Ar.ne Ex169_b164 Bq169.2.2.2.2.2.2.2.2.2.2.1 (hw _ (List.mem_of_getElem? (i := 7) rfl))) nin0)))
        have Ex179_b162 := Ex169_b162.keep Kp179
        have Ex179_b164 := Ex169_b164.keep Kp179
        have Z179 := Nat.le_trans Z169 Kp179.1
        have O179 := O169.keep Kp179 (allS gn_b166 (allS gd167 (allS ge167 (all0))))
        rcases Bq179 with Bq179 | Bq179
        · show own_Go p.tables e below K (T179.setTop (mkF m 114 #[.val (.long c1), .second, .val (.long c2), .second, .val (.long hz), .second, .val (.long bd), .second, .val (.long po), .second, .val (.int fl), .val (.long aa), .second, .val (.long bb), .second, .val (.int (2 : Int32)), .val (.ref b162), .val (.ref b164), .val (.ref b166), .val (.int (1 : Int32)), .val (.long aa), .second, .unset, .unset] []))
          refine own_by (fun t k => XS.lload X179.here hx rfl (hb hby at_114) rfl k) ?_
          show own_Go p.tables e below K (T179.setTop (mkF m 116 #[.val (.long c1), .second, .val (.long c2), .second, .val (.long hz), .second, .val (.long bd), .second, .val (.long po), .second, .val (.int fl), .val (.long aa), .second, .val (.long bb), .second, .val (.int (2 : Int32)), .val (.ref b162), .val (.ref b164), .val (.ref b166), .val (.int (1 : Int32)), .val (.long aa), .second, .unset, .unset] [(.long aa)]))
          refine own_by (fun t k => XS.lload X179.here hx rfl (hb hby at_116) rfl k) ?_
          show own_Go p.tables e below K (T179.setTop (mkF m 118 #[.val (.long c1), .second, .val (.long c2), .second, .val (.long hz), .second, .val (.long bd), .second, .val (.long po), .second, .val (.int fl), .val (.long aa), .second, .val (.long bb), .second, .val (.int (2 : Int32)), .val (.ref b162), .val (.ref b164), .val (.ref b166), .val (.int (1 : Int32)), .val (.long aa), .second, .unset, .unset] [(.long bb), (.long aa)]))
          obtain ⟨_, _, ⟨T180, L180, k180, n180⟩, -, X180, ⟨Lc180, hQ180, l180, y180, z180⟩, st180⟩ := Jvm.LawKit.callS X179 hx (y := (⟨"java/lang/Math", "max", "(JJ)J"⟩ : MethodName)) hown (mvT hZ (hw _ (List.mem_of_getElem? (i := 1) rfl))) (mvT hZ (hw _ (List.mem_of_getElem? (i := 2) rfl))) (mvT hZ (hw _ (List.mem_of_getElem? (i := 3) rfl))) (mvT hZ (hw _ (List.mem_of_getElem? (i := 4) rfl))) (by decide) (backOf (W := 0) (own_rmmx l Z aw hw [] aa bb T179.heap n0 Z179) hZ (hw _ (List.mem_of_getElem? (i := 4) rfl)) (hw _ (List.mem_of_getElem? (i := 3) rfl)) (by decide) (by decide)) (g := (mkF m 118 #[.val (.long c1), .second, .val (.long c2), .second, .val (.long hz), .second, .val (.long bd), .second, .val (.long po), .second, .val (.int fl), .val (.long aa), .second, .val (.long bb), .second, .val (.int (2 : Int32)), .val (.ref b162), .val (.ref b164), .val (.ref b166), .val (.int (1 : Int32)), .val (.long aa), .second, .unset, .unset] [(.long bb), (.long aa)])) rfl (by rw [hml]; rfl) (argsL := [(.long aa), (.long bb)]) (rest := []) (lenOf own_pd6 rfl) rfl (by show 2 * 0 + _ ≤ _; exact Nat.le_of_eq rfl) (hb hby at_118) (fun _ _ => ⟨rfl, rfl, (by decide : 12 + 0 ≤ _), (by decide : 58 + 0 ≤ _)⟩)
          dsimp only [Pt.U, Pt.locs, Pt.cells, Pt.slots] at X180 l180 y180 z180 st180 hQ180
          subst l180 y180 z180
          obtain ⟨rfl, N180q, e180⟩ := hQ180
          have N180 := Fr.app N179 N180q
          refine own_by st180 ?_
          show own_Go p.tables e below K (T180.setTop (mkF m 121 #[.val (.long c1), .second, .val (.long c2), .second, .val (.long hz), .second, .val (.long bd), .second, .val (.long po), .second, .val (.int fl), .val (.long aa), .second, .val (.long bb), .second, .val (.int (2 : Int32)), .val (.ref b162), .val (.ref b164), .val (.ref b166), .val (.int (1 : Int32)), .val (.long aa), .second, .unset, .unset] [(.long (own_mx aa bb))]))
          refine own_by (fun t k => XS.lstore X180.here hx rfl (hb hby at_121) rfl (l' := #[.val (.long c1), .second, .val (.long c2), .second, .val (.long hz), .second, .val (.long bd), .second, .val (.long po), .second, .val (.int fl), .val (.long aa), .second, .val (.long bb), .second, .val (.int (2 : Int32)), .val (.ref b162), .val (.ref b164), .val (.ref b166), .val (.int (1 : Int32)), .val (.long (own_mx aa bb)), .second, .unset, .unset]) rfl k) ?_
          show own_Go p.tables e below K (T180.setTop (mkF m 123 #[.val (.long c1), .second, .val (.long c2), .second, .val (.long hz), .second, .val (.long bd), .second, .val (.long po), .second, .val (.int fl), .val (.long aa), .second, .val (.long bb), .second, .val (.int (2 : Int32)), .val (.ref b162), .val (.ref b164), .val (.ref b166), .val (.int (1 : Int32)), .val (.long (own_mx aa bb)), .second, .unset, .unset] []))
          refine own_by (fun t k => XS.aload X180.here hx rfl (hb hby at_123) rfl rfl k) ?_
          show own_Go p.tables e below K (T180.setTop (mkF m 125 #[.val (.long c1), .second, .val (.long c2), .second, .val (.long hz), .second, .val (.long bd), .second, .val (.long po), .second, .val (.int fl), .val (.long aa), .second, .val (.long bb), .second, .val (.int (2 : Int32)), .val (.ref b162), .val (.ref b164), .val (.ref b166), .val (.int (1 : Int32)), .val (.long (own_mx aa bb)), .second, .unset, .unset] [(.ref b166)]))
          obtain ⟨cq181, kq181, q181a, q181b, q181c⟩ := isOf hZ e180 Bq179.1
          obtain ⟨_, _, ⟨T181, L181, k181, n181⟩, -, X181, ⟨Lc181, hQ181, l181, y181, z181⟩, st181⟩ := X180.virtualBack hx (y := (⟨"com/example/predicate/predicate/engine/FoldedTransactions", "isEmpty", "()Z"⟩ : MethodName)) (z := (⟨"com/example/predicate/predicate/engine/FoldedTransactions", "isEmpty", "()Z"⟩ : MethodName)) hown (mvT hZ (hw _ (List.mem_of_getElem? (i := 71) rfl))) (mvT hZ (hw _ (List.mem_of_getElem? (i := 72) rfl))) (notFace_of_selects (args := #[]) (mvT hZ (hw _ (List.mem_of_getElem? (i := 74) rfl)))) (mvT hZ (hw _ (List.mem_of_getElem? (i := 74) rfl))) (mvT hZ (hw _ (List.mem_of_getElem? (i := 73) rfl))) (by decide) (backOf (W := 0) (own_rmemp l Z aw hw [] b166 (own_mx aa bb) T179.heap n0 Z179 Bq179.2.2.2.2.1) hZ (hw _ (List.mem_of_getElem? (i := 75) rfl)) (hw _ (List.mem_of_getElem? (i := 34) rfl)) (by decide) (by decide)) q181a q181c (g := (mkF m 125 #[.val (.long c1), .second, .val (.long c2), .second, .val (.long hz), .second, .val (.long bd), .second, .val (.long po), .second, .val (.int fl), .val (.long aa), .second, .val (.long bb), .second, .val (.int (2 : Int32)), .val (.ref b162), .val (.ref b164), .val (.ref b166), .val (.int (1 : Int32)), .val (.long (own_mx aa bb)), .second, .unset, .unset] [(.ref b166)])) rfl (by rw [hml]; rfl) (Steps.refl _) (argsL := []) (rest := []) (lenOf own_pd5 rfl) rfl (by show 2 * 0 + _ ≤ _; exact Nat.le_of_eq rfl) (hb hby at_125) (fun _ _ => ⟨rfl, e180, (by decide : 12 + 0 ≤ _), (by decide : 58 + 0 ≤ _)⟩)
          dsimp only [Pt.U, Pt.locs, Pt.cells, Pt.slots] at X181 l181 y181 z181 st181 hQ181
          subst l181 y181 z181
          obtain ⟨rfl, N181q, e181⟩ := hQ181
          have N181 := Fr.app N180 N181q
          refine own_by (fun t k => st181.trans k) ?_
          rw [own_empp (own_mxp hpa)]
          show own_Go p.tables e below K (T181.setTop (mkF m 128 #[.val (.long c1), .second, .val (.long c2), .second, .val (.long hz), .second, .val (.long bd), .second, .val (.long po), .second, .val (.int fl), .val (.long aa), .second, .val (.long bb), .second, .val (.int (2 : Int32)), .val (.ref b162), .val (.ref b164), .val (.ref b166), .val (.int (1 : Int32)), .val (.long (own_mx aa bb)), .second, .unset, .unset] [(.int (0 : Int32))]))
          refine own_by (fun t k => XS.istore X181.here hx rfl (hb hby at_128) rfl (l' := #[.val (.long c1), .second, .val (.long c2), .second, .val (.long hz), .second, .val (.long bd), .second, .val (.long po), .second, .val (.int fl), .val (.long aa), .second, .val (.long bb), .second, .val (.int (2 : Int32)), .val (.ref b162), .val (.ref b164), .val (.ref b166), .val (.int (1 : Int32)), .val (.long (own_mx aa bb)), .second, .val (.int (0 : Int32)), .unset]) rfl k) ?_
          show own_Go p.tables e below K (T181.setTop (mkF m 130 #[.val (.long c1), .second, .val (.long c2), .second, .val (.long hz), .second, .val (.long bd), .second, .val (.long po), .second, .val (.int fl), .val (.long aa), .second, .val (.long bb), .second, .val (.int (2 : Int32)), .val (.ref b162), .val (.ref b164), .val (.ref b166), .val (.int (1 : Int32)), .val (.long (own_mx aa bb)), .second, .val (.int (0 : Int32)), .unset] []))
          refine own_by (fun t k => XS.aload X181.here hx rfl (hb hby at_130) rfl rfl k) ?_
          show own_Go p.tables e below K (T181.setTop (mkF m 132 #[.val (.long c1), .second, .val (.long c2), .second, .val (.long hz), .second, .val (.long bd), .second, .val (.long po), .second, .val (.int fl), .val (.long aa), .second, .val (.long bb), .second, .val (.int (2 : Int32)), .val (.ref b162), .val (.ref b164), .val (.ref b166), .val (.int (1 : Int32)), .val (.long (own_mx aa bb)), .second, .val (.int (0 : Int32)), .unset] [(.ref b166)]))
          refine own_by (fun t k => XS.lload X181.here hx rfl (hb hby at_132) rfl k) ?_
          show own_Go p.tables e below K (T181.setTop (mkF m 134 #[.val (.long c1), .second, .val (.long c2), .second, .val (.long hz), .second, .val (.long bd), .second, .val (.long po), .second, .val (.int fl), .val (.long aa), .second, .val (.long bb), .second, .val (.int (2 : Int32)), .val (.ref b162), .val (.ref b164), .val (.ref b166), .val (.int (1 : Int32)), .val (.long (own_mx aa bb)), .second, .val (.int (0 : Int32)), .unset] [(.long hz), (.ref b166)]))
          obtain ⟨cq182, kq182, q182a, q182b, q182c⟩ := isOf hZ e181 Bq179.1
          obtain ⟨_, _, ⟨T182, L182, k182, n182⟩, -, X182, ⟨Lc182, hQ182, l182, y182, z182⟩, st182⟩ := X181.virtualBack hx (y := (⟨"com/example/predicate/predicate/engine/FoldedTransactions", "forgetSeenWithin", "(J)V"⟩ : MethodName)) (z := (⟨"com/example/predicate/predicate/engine/FoldedTransactions", "forgetSeenWithin", "(J)V"⟩ : MethodName)) hown (mvT hZ (hw _ (List.mem_of_getElem? (i := 173) rfl))) (mvT hZ (hw _ (List.mem_of_getElem? (i := 174) rfl))) (notFace_of_selects (args := #[]) (mvT hZ (hw _ (List.mem_of_getElem? (i := 176) rfl)))) (mvT hZ (hw _ (List.mem_of_getElem? (i := 176) rfl))) (mvT hZ (hw _ (List.mem_of_getElem? (i := 175) rfl))) (by decide) (backOf (W := 0) (own_rmfgt1 l Z aw hw [] b166 hz hm167 dq167 el167 k167c (0 : Int32) (own_mx aa bb) T179.heap n0 Z179 Bq179 gn_b166 gh167 gd167 ge167) hZ (hw _ (List.mem_of_getElem? (i := 177) rfl)) (hw _ (List.mem_of_getElem? (i := 34) rfl)) (by decide) (by decide)) q182a q182c (g := (mkF m 134 #[.val (.long c1), .second, .val (.long c2), .second, .val (.long hz), .second, .val (.long bd), .second, .val (.long po), .second, .val (.int fl), .val (.long aa), .second, .val (.long bb), .second, .val (.int (2 : Int32)), .val (.ref b162), .val (.ref b164), .val (.ref b166), .val (.int (1 : Int32)), .val (.long (own_mx aa bb)), .second, .val (.int (0 : Int32)), .unset] [(.long hz), (.ref b166)])) rfl (by rw [hml]; rfl) (Steps.refl _) (argsL := [(.long hz)]) (rest := []) (lenOf own_pd12 rfl) rfl (by show 2 * 0 + _ ≤ _; exact Nat.le_of_eq rfl) (hb hby at_134) (fun _ _ => ⟨rfl, e181, (by decide : 12 + 0 ≤ _), (by decide : 58 + 0 ≤ _)⟩)
          dsimp only [Pt.U, Pt.locs, Pt.cells, Pt.slots] at X182 l182 y182 z182 st182 hQ182
          subst l182 y182 z182
          obtain ⟨rfl, N182q, Xp182, Lp182⟩ := hQ182
          have N182 := Fr.app N181 N182q
          refine own_by (fun t k => st182.trans k) ?_
          have Zq182 : n0 ≤ T182.heap.size := Nat.le_of_lt (Nat.lt_of_le_of_lt gn_b166 Xp182.lt)
          show own_Go p.tables e below K (T182.setTop (mkF m 137 #[.val (.long c1), .second, .val (.long c2), .second, .val (.long hz), .second, .val (.long bd), .second, .val (.long po), .second, .val (.int fl), .val (.long aa), .second, .val (.long bb), .second, .val (.int (2 : Int32)), .val (.ref b162), .val (.ref b164), .val (.ref b166), .val (.int (1 : Int32)), .val (.long (own_mx aa bb)), .second, .val (.int (0 : Int32)), .unset] []))
          refine own_by (fun t k => XS.aload X182.here hx rfl (hb hby at_137) rfl rfl k) ?_
          show own_Go p.tables e below K (T182.setTop (mkF m 139 #[.val (.long c1), .second, .val (.long c2), .second, .val (.long hz), .second, .val (.long bd), .second, .val (.long po), .second, .val (.int fl), .val (.long aa), .second, .val (.long bb), .second, .val (.int (2 : Int32)), .val (.ref b162), .val (.ref b164), .val (.ref b166), .val (.int (1 : Int32)), .val (.long (own_mx aa bb)), .second, .val (.int (0 : Int32)), .unset] [(.ref b166)]))
          obtain ⟨cq183, kq183, q183a, q183b, q183c⟩ := isOf hZ rfl Xp182
          obtain ⟨_, _, ⟨T183, L183, k183, n183⟩, -, X183, ⟨Lc183, hQ183, l183, y183, z183⟩, st183⟩ := X182.virtualBack hx (y := (⟨"com/example/predicate/predicate/engine/FoldedTransactions", "isEmpty", "()Z"⟩ : MethodName)) (z := (⟨"com/example/predicate/predicate/engine/FoldedTransactions", "isEmpty", "()Z"⟩ : MethodName)) hown (mvT hZ (hw _ (List.mem_of_getElem? (i := 71) rfl))) (mvT hZ (hw _ (List.mem_of_getElem? (i := 72) rfl))) (notFace_of_selects (args := #[]) (mvT hZ (hw _ (List.mem_of_getElem? (i := 74) rfl)))) (mvT hZ (hw _ (List.mem_of_getElem? (i := 74) rfl))) (mvT hZ (hw _ (List.mem_of_getElem? (i := 73) rfl))) (by decide) (backOf (W := 0) (own_rmemp l Z aw hw [] b166 (own_fgt (own_mx aa bb) hz) T182.heap n0 Zq182 Lp182) hZ (hw _ (List.mem_of_getElem? (i := 75) rfl)) (hw _ (List.mem_of_getElem? (i := 34) rfl)) (by decide) (by decide)) q183a q183c (g := (mkF m 139 #[.val (.long c1), .second, .val (.long c2), .second, .val (.long hz), .second, .val (.long bd), .second, .val (.long po), .second, .val (.int fl), .val (.long aa), .second, .val (.long bb), .second, .val (.int (2 : Int32)), .val (.ref b162), .val (.ref b164), .val (.ref b166), .val (.int (1 : Int32)), .val (.long (own_mx aa bb)), .second, .val (.int (0 : Int32)), .unset] [(.ref b166)])) rfl (by rw [hml]; rfl) (Steps.refl _) (argsL := []) (rest := []) (lenOf own_pd5 rfl) rfl (by show 2 * 0 + _ ≤ _; exact Nat.le_of_eq rfl) (hb hby at_139) (fun _ _ => ⟨rfl, rfl, (by decide : 12 + 0 ≤ _), (by decide : 58 + 0 ≤ _)⟩)
          dsimp only [Pt.U, Pt.locs, Pt.cells, Pt.slots] at X183 l183 y183 z183 st183 hQ183
          subst l183 y183 z183
          obtain ⟨rfl, N183q, e183⟩ := hQ183
          have N183 := Fr.app N182 N183q
          refine own_by (fun t k => st183.trans k) ?_
          show own_Go p.tables e below K (T183.setTop (mkF m 142 #[.val (.long c1), .second, .val (.long c2), .second, .val (.long hz), .second, .val (.long bd), .second, .val (.long po), .second, .val (.int fl), .val (.long aa), .second, .val (.long bb), .second, .val (.int (2 : Int32)), .val (.ref b162), .val (.ref b164), .val (.ref b166), .val (.int (1 : Int32)), .val (.long (own_mx aa bb)), .second, .val (.int (0 : Int32)), .unset] [(.int (own_emp (own_fgt (own_mx aa bb) hz)))]))
          refine own_by (fun t k => XS.istore X183.here hx rfl (hb hby at_142) rfl (l' := #[.val (.long c1), .second, .val (.long c2), .second, .val (.long hz), .second, .val (.long bd), .second, .val (.long po), .second, .val (.int fl), .val (.long aa), .second, .val (.long bb), .second, .val (.int (2 : Int32)), .val (.ref b162), .val (.ref b164), .val (.ref b166), .val (.int (1 : Int32)), .val (.long (own_mx aa bb)), .second, .val (.int (0 : Int32)), .val (.int (own_emp (own_fgt (own_mx aa bb) hz)))]) rfl k) ?_
          show own_Go p.tables e below K (T183.setTop (mkF m 144 #[.val (.long c1), .second, .val (.long c2), .second, .val (.long hz), .second, .val (.long bd), .second, .val (.long po), .second, .val (.int fl), .val (.long aa), .second, .val (.long bb), .second, .val (.int (2 : Int32)), .val (.ref b162), .val (.ref b164), .val (.ref b166), .val (.int (1 : Int32)), .val (.long (own_mx aa bb)), .second, .val (.int (0 : Int32)), .val (.int (own_emp (own_fgt (own_mx aa bb) hz)))] []))
          refine own_by (fun t k => XS.iload X183.here hx rfl (hb hby at_144) rfl k) ?_
          show own_Go p.tables e below K (T183.setTop (mkF m 146 #[.val (.long c1), .second, .val (.long c2), .second, .val (.long hz), .second, .val (.long bd), .second, .val (.long po), .second, .val (.int fl), .val (.long aa), .second, .val (.long bb), .second, .val (.int (2 : Int32)), .val (.ref b162), .val (.ref b164), .val (.ref b166), .val (.int (1 : Int32)), .val (.long (own_mx aa bb)), .second, .val (.int (0 : Int32)), .val (.int (own_emp (own_fgt (own_mx aa bb) hz)))] [(.int (1 : Int32))]))
          have hc146 : ¬ ((1 : Int32) = (0 : Int32)) := by decide
          refine own_by (fun t k => XS.ifNo X183.here hx rfl (hb hby at_146) rfl ((if0 _ _).trans (feq hc146).1) k) ?_
          show own_Go p.tables e below K (T183.setTop (mkF m 149 #[.val (.long c1), .second, .val (.long c2), .second, .val (.long hz), .second, .val (.long bd), .second, .val (.long po), .second, .val (.int fl), .val (.long aa), .second, .val (.long bb), .second, .val (.int (2 : Int32)), .val (.ref b162), .val (.ref b164), .val (.ref b166), .val (.int (1 : Int32)), .val (.long (own_mx aa bb)), .second, .val (.int (0 : Int32)), .val (.int (own_emp (own_fgt (own_mx aa bb) hz)))] []))
          refine own_by (fun t k => XS.iload X183.here hx rfl (hb hby at_149) rfl k) ?_
          show own_Go p.tables e below K (T183.setTop (mkF m 151 #[.val (.long c1), .second, .val (.long c2), .second, .val (.long hz), .second, .val (.long bd), .second, .val (.long po), .second, .val (.int fl), .val (.long aa), .second, .val (.long bb), .second, .val (.int (2 : Int32)), .val (.ref b162), .val (.ref b164), .val (.ref b166), .val (.int (1 : Int32)), .val (.long (own_mx aa bb)), .second, .val (.int (0 : Int32)), .val (.int (own_emp (own_fgt (own_mx aa bb) hz)))] [(.int (0 : Int32))]))
          refine own_by (fun t k => XS.iload X183.here hx rfl (hb hby at_151) rfl k) ?_
          show own_Go p.tables e below K (T183.setTop (mkF m 153 #[.val (.long c1), .second, .val (.long c2), .second, .val (.long hz), .second, .val (.long bd), .second, .val (.long po), .second, .val (.int fl), .val (.long aa), .second, .val (.long bb), .second, .val (.int (2 : Int32)), .val (.ref b162), .val (.ref b164), .val (.ref b166), .val (.int (1 : Int32)), .val (.long (own_mx aa bb)), .second, .val (.int (0 : Int32)), .val (.int (own_emp (own_fgt (own_mx aa bb) hz)))] [(.int (2 : Int32)), (.int (0 : Int32))]))
          have hc153 : ¬ ((2 : Int32) = (0 : Int32)) := by decide
          refine own_by (fun t k => XS.ifYes X183.here hx rfl (pc0 := 153) (pc' := 160) rfl (hb hby at_153) rfl ((if0 _ _).trans (feq hc153).2) (by decide) (by decide) k) ?_
          show own_Go p.tables e below K (T183.setTop (mkF m 160 #[.val (.long c1), .second, .val (.long c2), .second, .val (.long hz), .second, .val (.long bd), .second, .val (.long po), .second, .val (.int fl), .val (.long aa), .second, .val (.long bb), .second, .val (.int (2 : Int32)), .val (.ref b162), .val (.ref b164), .val (.ref b166), .val (.int (1 : Int32)), .val (.long (own_mx aa bb)), .second, .val (.int (0 : Int32)), .val (.int (own_emp (own_fgt (own_mx aa bb) hz)))] [(.int (0 : Int32))]))
          refine own_by (fun t k => XS.iconst X183.here hx rfl (hb hby at_160) k) ?_
          show own_Go p.tables e below K (T183.setTop (mkF m 161 #[.val (.long c1), .second, .val (.long c2), .second, .val (.long hz), .second, .val (.long bd), .second, .val (.long po), .second, .val (.int fl), .val (.long aa), .second, .val (.long bb), .second, .val (.int (2 : Int32)), .val (.ref b162), .val (.ref b164), .val (.ref b166), .val (.int (1 : Int32)), .val (.long (own_mx aa bb)), .second, .val (.int (0 : Int32)), .val (.int (own_emp (own_fgt (own_mx aa bb) hz)))] [(.int (0 : Int32)), (.int (0 : Int32))]))
          have hc161 : (0 : Int32) = (0 : Int32) := by decide
          refine own_by (fun t k => XS.icmpNo X183.here hx rfl (hb hby at_161) rfl (teq hc161).2 k) ?_
          show own_Go p.tables e below K (T183.setTop (mkF m 164 #[.val (.long c1), .second, .val (.long c2), .second, .val (.long hz), .second, .val (.long bd), .second, .val (.long po), .second, .val (.int fl), .val (.long aa), .second, .val (.long bb), .second, .val (.int (2 : Int32)), .val (.ref b162), .val (.ref b164), .val (.ref b166), .val (.int (1 : Int32)), .val (.long (own_mx aa bb)), .second, .val (.int (0 : Int32)), .val (.int (own_emp (own_fgt (own_mx aa bb) hz)))] []))
          refine own_by (fun t k => XS.iload X183.here hx rfl (hb hby at_164) rfl k) ?_
          show own_Go p.tables e below K (T183.setTop (mkF m 166 #[.val (.long c1), .second, .val (.long c2), .second, .val (.long hz), .second, .val (.long bd), .second, .val (.long po), .second, .val (.int fl), .val (.long aa), .second, .val (.long bb), .second, .val (.int (2 : Int32)), .val (.ref b162), .val (.ref b164), .val (.ref b166), .val (.int (1 : Int32)), .val (.long (own_mx aa bb)), .second, .val (.int (0 : Int32)), .val (.int (own_emp (own_fgt (own_mx aa bb) hz)))] [(.int (own_emp (own_fgt (own_mx aa bb) hz)))]))
          refine own_by (fun t k => XS.iload X183.here hx rfl (hb hby at_166) rfl k) ?_
          show own_Go p.tables e below K (T183.setTop (mkF m 168 #[.val (.long c1), .second, .val (.long c2), .second, .val (.long hz), .second, .val (.long bd), .second, .val (.long po), .second, .val (.int fl), .val (.long aa), .second, .val (.long bb), .second, .val (.int (2 : Int32)), .val (.ref b162), .val (.ref b164), .val (.ref b166), .val (.int (1 : Int32)), .val (.long (own_mx aa bb)), .second, .val (.int (0 : Int32)), .val (.int (own_emp (own_fgt (own_mx aa bb) hz)))] [(.int (2 : Int32)), (.int (own_emp (own_fgt (own_mx aa bb) hz)))]))
          have hc168 : ¬ ((2 : Int32) = (0 : Int32)) := by decide
          refine own_by (fun t k => XS.ifNo X183.here hx rfl (hb hby at_168) rfl ((if0 _ _).trans (feq hc168).1) k) ?_
          show own_Go p.tables e below K (T183.setTop (mkF m 171 #[.val (.long c1), .second, .val (.long c2), .second, .val (.long hz), .second, .val (.long bd), .second, .val (.long po), .second, .val (.int fl), .val (.long aa), .second, .val (.long bb), .second, .val (.int (2 : Int32)), .val (.ref b162), .val (.ref b164), .val (.ref b166), .val (.int (1 : Int32)), .val (.long (own_mx aa bb)), .second, .val (.int (0 : Int32)), .val (.int (own_emp (own_fgt (own_mx aa bb) hz)))] [(.int (own_emp (own_fgt (own_mx aa bb) hz)))]))
          refine own_by (fun t k => XS.lload X183.here hx rfl (hb hby at_171) rfl k) ?_
          show own_Go p.tables e below K (T183.setTop (mkF m 173 #[.val (.long c1), .second, .val (.long c2), .second, .val (.long hz), .second, .val (.long bd), .second, .val (.long po), .second, .val (.int fl), .val (.long aa), .second, .val (.long bb), .second, .val (.int (2 : Int32)), .val (.ref b162), .val (.ref b164), .val (.ref b166), .val (.int (1 : Int32)), .val (.long (own_mx aa bb)), .second, .val (.int (0 : Int32)), .val (.int (own_emp (own_fgt (own_mx aa bb) hz)))] [(.long (own_mx aa bb)), (.int (own_emp (own_fgt (own_mx aa bb) hz)))]))
          refine own_by (fun t k => XS.lload X183.here hx rfl (hb hby at_173) rfl k) ?_
          show own_Go p.tables e below K (T183.setTop (mkF m 175 #[.val (.long c1), .second, .val (.long c2), .second, .val (.long hz), .second, .val (.long bd), .second, .val (.long po), .second, .val (.int fl), .val (.long aa), .second, .val (.long bb), .second, .val (.int (2 : Int32)), .val (.ref b162), .val (.ref b164), .val (.ref b166), .val (.int (1 : Int32)), .val (.long (own_mx aa bb)), .second, .val (.int (0 : Int32)), .val (.int (own_emp (own_fgt (own_mx aa bb) hz)))] [(.long hz), (.long (own_mx aa bb)), (.int (own_emp (own_fgt (own_mx aa bb) hz)))]))
          refine own_by (fun t k => XS.lcmp X183.here hx rfl (hb hby at_175) rfl k) ?_
          show own_Go p.tables e below K (T183.setTop (mkF m 176 #[.val (.long c1), .second, .val (.long c2), .second, .val (.long hz), .second, .val (.long bd), .second, .val (.long po), .second, .val (.int fl), .val (.long aa), .second, .val (.long bb), .second, .val (.int (2 : Int32)), .val (.ref b162), .val (.ref b164), .val (.ref b166), .val (.int (1 : Int32)), .val (.long (own_mx aa bb)), .second, .val (.int (0 : Int32)), .val (.int (own_emp (own_fgt (own_mx aa bb) hz)))] [(.int (lcmpW (own_mx aa bb) hz)), (.int (own_emp (own_fgt (own_mx aa bb) hz)))]))
          by_cases hc176 : hz < (own_mx aa bb)
          · refine own_by (fun t k => XS.ifYes X183.here hx rfl (pc0 := 176) (pc' := 183) rfl (hb hby at_176) rfl (own_lgt hc176).1 (by decide) (by decide) k) ?_
            show own_Go p.tables e below K (T183.setTop (mkF m 183 #[.val (.long c1), .second, .val (.long c2), .second, .val (.long hz), .second, .val (.long bd), .second, .val (.long po), .second, .val (.int fl), .val (.long aa), .second, .val (.long bb), .second, .val (.int (2 : Int32)), .val (.ref b162), .val (.ref b164), .val (.ref b166), .val (.int (1 : Int32)), .val (.long (own_mx aa bb)), .second, .val (.int (0 : Int32)), .val (.int (own_emp (own_fgt (own_mx aa bb) hz)))] [(.int (own_emp (own_fgt (own_mx aa bb) hz)))]))
            refine own_by (fun t k => XS.iconst X183.here hx rfl (hb hby at_183) k) ?_
            show own_Go p.tables e below K (T183.setTop (mkF m 184 #[.val (.long c1), .second, .val (.long c2), .second, .val (.long hz), .second, .val (.long bd), .second, .val (.long po), .second, .val (.int fl), .val (.long aa), .second, .val (.long bb), .second, .val (.int (2 : Int32)), .val (.ref b162), .val (.ref b164), .val (.ref b166), .val (.int (1 : Int32)), .val (.long (own_mx aa bb)), .second, .val (.int (0 : Int32)), .val (.int (own_emp (own_fgt (own_mx aa bb) hz)))] [(.int (0 : Int32)), (.int (own_emp (own_fgt (own_mx aa bb) hz)))]))
            have hc184 : (own_emp (own_fgt (own_mx aa bb) hz)) = (0 : Int32) := by rw [own_e2 (own_mxp hpa), if_pos hc176]
            refine own_by (fun t k => XS.icmpNo X183.here hx rfl (hb hby at_184) rfl (teq hc184).2 k) ?_
            show own_Go p.tables e below K (T183.setTop (mkF m 187 #[.val (.long c1), .second, .val (.long c2), .second, .val (.long hz), .second, .val (.long bd), .second, .val (.long po), .second, .val (.int fl), .val (.long aa), .second, .val (.long bb), .second, .val (.int (2 : Int32)), .val (.ref b162), .val (.ref b164), .val (.ref b166), .val (.int (1 : Int32)), .val (.long (own_mx aa bb)), .second, .val (.int (0 : Int32)), .val (.int (own_emp (own_fgt (own_mx aa bb) hz)))] []))
            refine own_by (fun t k => XS.iconst X183.here hx rfl (hb hby at_187) k) ?_
            show own_Go p.tables e below K (T183.setTop (mkF m 188 #[.val (.long c1), .second, .val (.long c2), .second, .val (.long hz), .second, .val (.long bd), .second, .val (.long po), .second, .val (.int fl), .val (.long aa), .second, .val (.long bb), .second, .val (.int (2 : Int32)), .val (.ref b162), .val (.ref b164), .val (.ref b166), .val (.int (1 : Int32)), .val (.long (own_mx aa bb)), .second, .val (.int (0 : Int32)), .val (.int (own_emp (own_fgt (own_mx aa bb) hz)))] [(.int (1 : Int32))]))
            refine own_by (fun t k => XS.goto X183.here hx rfl (pc0 := 188) (pc' := 192) rfl (hb hby at_188) (by decide) (by decide) k) ?_
            show own_Go p.tables e below K (T183.setTop (mkF m 192 #[.val (.long c1), .second, .val (.long c2), .second, .val (.long hz), .second, .val (.long bd), .second, .val (.long po), .second, .val (.int fl), .val (.long aa), .second, .val (.long bb), .second, .val (.int (2 : Int32)), .val (.ref b162), .val (.ref b164), .val (.ref b166), .val (.int (1 : Int32)), .val (.long (own_mx aa bb)), .second, .val (.int (0 : Int32)), .val (.int (own_emp (own_fgt (own_mx aa bb) hz)))] [(.int (1 : Int32))]))
            exact own_retZ X183 hx (t := .boolean) hret (by simp) (hb hby at_192) (hK (some (.int (1 : Int32))) X183 (fun h => by rw [hret] at h; cases h) (⟨rfl, N183⟩) (by decide) (by decide))
          · refine own_by (fun t k => XS.ifNo X183.here hx rfl (hb hby at_176) rfl (own_lle hc176).1 k) ?_
            show own_Go p.tables e below K (T183.setTop (mkF m 179 #[.val (.long c1), .second, .val (.long c2), .second, .val (.long hz), .second, .val (.long bd), .second, .val (.long po), .second, .val (.int fl), .val (.long aa), .second, .val (.long bb), .second, .val (.int (2 : Int32)), .val (.ref b162), .val (.ref b164), .val (.ref b166), .val (.int (1 : Int32)), .val (.long (own_mx aa bb)), .second, .val (.int (0 : Int32)), .val (.int (own_emp (own_fgt (own_mx aa bb) hz)))] [(.int (own_emp (own_fgt (own_mx aa bb) hz)))]))
            refine own_by (fun t k => XS.iconst X183.here hx rfl (hb hby at_179) k) ?_
            show own_Go p.tables e below K (T183.setTop (mkF m 180 #[.val (.long c1), .second, .val (.long c2), .second, .val (.long hz), .second, .val (.long bd), .second, .val (.long po), .second, .val (.int fl), .val (.long aa), .second, .val (.long bb), .second, .val (.int (2 : Int32)), .val (.ref b162), .val (.ref b164), .val (.ref b166), .val (.int (1 : Int32)), .val (.long (own_mx aa bb)), .second, .val (.int (0 : Int32)), .val (.int (own_emp (own_fgt (own_mx aa bb) hz)))] [(.int (1 : Int32)), (.int (own_emp (own_fgt (own_mx aa bb) hz)))]))
            refine own_by (fun t k => XS.goto X183.here hx rfl (pc0 := 180) (pc' := 184) rfl (hb hby at_180) (by decide) (by decide) k) ?_
            show own_Go p.tables e below K (T183.setTop (mkF m 184 #[.val (.long c1), .second, .val (.long c2), .second, .val (.long hz), .second, .val (.long bd), .second, .val (.long po), .second, .val (.int fl), .val (.long aa), .second, .val (.long bb), .second, .val (.int (2 : Int32)), .val (.ref b162), .val (.ref b164), .val (.ref b166), .val (.int (1 : Int32)), .val (.long (own_mx aa bb)), .second, .val (.int (0 : Int32)), .val (.int (own_emp (own_fgt (own_mx aa bb) hz)))] [(.int (1 : Int32)), (.int (own_emp (own_fgt (own_mx aa bb) hz)))]))
            have hc184 : (own_emp (own_fgt (own_mx aa bb) hz)) = (1 : Int32) := by rw [own_e2 (own_mxp hpa), if_neg hc176]
            refine own_by (fun t k => XS.icmpNo X183.here hx rfl (hb hby at_184) rfl (teq hc184).2 k) ?_
            show own_Go p.tables e below K (T183.setTop (mkF m 187 #[.val (.long c1), .second, .val (.long c2), .second, .val (.long hz), .second, .val (.long bd), .second, .val (.long po), .second, .val (.int fl), .val (.long aa), .second, .val (.long bb), .second, .val (.int (2 : Int32)), .val (.ref b162), .val (.ref b164), .val (.ref b166), .val (.int (1 : Int32)), .val (.long (own_mx aa bb)), .second, .val (.int (0 : Int32)), .val (.int (own_emp (own_fgt (own_mx aa bb) hz)))] []))
            refine own_by (fun t k => XS.iconst X183.here hx rfl (hb hby at_187) k) ?_
            show own_Go p.tables e below K (T183.setTop (mkF m 188 #[.val (.long c1), .second, .val (.long c2), .second, .val (.long hz), .second, .val (.long bd), .second, .val (.long po), .second, .val (.int fl), .val (.long aa), .second, .val (.long bb), .second, .val (.int (2 : Int32)), .val (.ref b162), .val (.ref b164), .val (.ref b166), .val (.int (1 : Int32)), .val (.long (own_mx aa bb)), .second, .val (.int (0 : Int32)), .val (.int (own_emp (own_fgt (own_mx aa bb) hz)))] [(.int (1 : Int32))]))
            refine own_by (fun t k => XS.goto X183.here hx rfl (pc0 := 188) (pc' := 192) rfl (hb hby at_188) (by decide) (by decide) k) ?_
            show own_Go p.tables e below K (T183.setTop (mkF m 192 #[.val (.long c1), .second, .val (.long c2), .second, .val (.long hz), .second, .val (.long bd), .second, .val (.long po), .second, .val (.int fl), .val (.long aa), .second, .val (.long bb), .second, .val (.int (2 : Int32)), .val (.ref b162), .val (.ref b164), .val (.ref b166), .val (.int (1 : Int32)), .val (.long (own_mx aa bb)), .second, .val (.int (0 : Int32)), .val (.int (own_emp (own_fgt (own_mx aa bb) hz)))] [(.int (1 : Int32))]))
            exact own_retZ X183 hx (t := .boolean) hret (by simp) (hb hby at_192) (hK (some (.int (1 : Int32))) X183 (fun h => by rw [hret] at h; cases h) (⟨rfl, N183⟩) (by decide) (by decide))
        · show own_Go p.tables e below K (T179.setTop (mkF m 114 #[.val (.long c1), .second, .val (.long c2), .second, .val (.long hz), .second, .val (.long bd), .second, .val (.long po), .second, .val (.int fl), .val (.long aa), .second, .val (.long bb), .second, .val (.int (2 : Int32)), .val (.ref b162), .val (.ref b164), .val (.ref b166), .val (.int (1 : Int32)), .val (.long aa), .second, .unset, .unset] []))
          refine own_by (fun t k => XS.lload X179.here hx rfl (hb hby at_114) rfl k) ?_
          show own_Go p.tables e below K (T179.setTop (mkF m 116 #[.val (.long c1), .second, .val (.long c2), .second, .val (.long hz), .second, .val (.long bd), .second, .val (.long po), .second, .val (.int fl), .val (.long aa), .second, .val (.long bb), .second, .val (.int (2 : Int32)), .val (.ref b162), .val (.ref b164), .val (.ref b166), .val (.int (1 : Int32)), .val (.long aa), .second, .unset, .unset] [(.long aa)]))
          refine own_by (fun t k => XS.lload X179.here hx rfl (hb hby at_116) rfl k) ?_
          show own_Go p.tables e below K (T179.setTop (mkF m 118 #[.val (.long c1), .second, .val (.long c2), .second, .val (.long hz), .second, .val (.long bd), .second, .val (.long po), .second, .val (.int fl), .val (.long aa), .second, .val (.long bb), .second, .val (.int (2 : Int32)), .val (.ref b162), .val (.ref b164), .val (.ref b166), .val (.int (1 : Int32)), .val (.long aa), .second, .unset, .unset] [(.long bb), (.long aa)]))
          obtain ⟨_, _, ⟨T184, L184, k184, n184⟩, -, X184, ⟨Lc184, hQ184, l184, y184, z184⟩, st184⟩ := Jvm.LawKit.callS X179 hx (y := (⟨"java/lang/Math", "max", "(JJ)J"⟩ : MethodName)) hown (mvT hZ (hw _ (List.mem_of_getElem? (i := 1) rfl))) (mvT hZ (hw _ (List.mem_of_getElem? (i := 2) rfl))) (mvT hZ (hw _ (List.mem_of_getElem? (i := 3) rfl))) (mvT hZ (hw _ (List.mem_of_getElem? (i := 4) rfl))) (by decide) (backOf (W := 0) (own_rmmx l Z aw hw [] aa bb T179.heap n0 Z179) hZ (hw _ (List.mem_of_getElem? (i := 4) rfl)) (hw _ (List.mem_of_getElem? (i := 3) rfl)) (by decide) (by decide)) (g := (mkF m 118 #[.val (.long c1), .second, .val (.long c2), .second, .val (.long hz), .second, .val (.long bd), .second, .val (.long po), .second, .val (.int fl), .val (.long aa), .second, .val (.long bb), .second, .val (.int (2 : Int32)), .val (.ref b162), .val (.ref b164), .val (.ref b166), .val (.int (1 : Int32)), .val (.long aa), .second, .unset, .unset] [(.long bb), (.long aa)])) rfl (by rw [hml]; rfl) (argsL := [(.long aa), (.long bb)]) (rest := []) (lenOf own_pd6 rfl) rfl (by show 2 * 0 + _ ≤ _; exact Nat.le_of_eq rfl) (hb hby at_118) (fun _ _ => ⟨rfl, rfl, (by decide : 12 + 0 ≤ _), (by decide : 58 + 0 ≤ _)⟩)
          dsimp only [Pt.U, Pt.locs, Pt.cells, Pt.slots] at X184 l184 y184 z184 st184 hQ184
          subst l184 y184 z184
          obtain ⟨rfl, N184q, e184⟩ := hQ184
          have N184 := Fr.app N179 N184q
          refine own_by st184 ?_
          show own_Go p.tables e below K (T184.setTop (mkF m 121 #[.val (.long c1), .second, .val (.long c2), .second, .val (.long hz), .second, .val (.long bd), .second, .val (.long po), .second, .val (.int fl), .val (.long aa), .second, .val (.long bb), .second, .val (.int (2 : Int32)), .val (.ref b162), .val (.ref b164), .val (.ref b166), .val (.int (1 : Int32)), .val (.long aa), .second, .unset, .unset] [(.long (own_mx aa bb))]))
          refine own_by (fun t k => XS.lstore X184.here hx rfl (hb hby at_121) rfl (l' := #[.val (.long c1), .second, .val (.long c2), .second, .val (.long hz), .second, .val (.long bd), .second, .val (.long po), .second, .val (.int fl), .val (.long aa), .second, .val (.long bb), .second, .val (.int (2 : Int32)), .val (.ref b162), .val (.ref b164), .val (.ref b166), .val (.int (1 : Int32)), .val (.long (own_mx aa bb)), .second, .unset, .unset]) rfl k) ?_
          show own_Go p.tables e below K (T184.setTop (mkF m 123 #[.val (.long c1), .second, .val (.long c2), .second, .val (.long hz), .second, .val (.long bd), .second, .val (.long po), .second, .val (.int fl), .val (.long aa), .second, .val (.long bb), .second, .val (.int (2 : Int32)), .val (.ref b162), .val (.ref b164), .val (.ref b166), .val (.int (1 : Int32)), .val (.long (own_mx aa bb)), .second, .unset, .unset] []))
          refine own_by (fun t k => XS.aload X184.here hx rfl (hb hby at_123) rfl rfl k) ?_
          show own_Go p.tables e below K (T184.setTop (mkF m 125 #[.val (.long c1), .second, .val (.long c2), .second, .val (.long hz), .second, .val (.long bd), .second, .val (.long po), .second, .val (.int fl), .val (.long aa), .second, .val (.long bb), .second, .val (.int (2 : Int32)), .val (.ref b162), .val (.ref b164), .val (.ref b166), .val (.int (1 : Int32)), .val (.long (own_mx aa bb)), .second, .unset, .unset] [(.ref b166)]))
          obtain ⟨cq185, kq185, q185a, q185b, q185c⟩ := isOf hZ e184 Bq179.1
          obtain ⟨_, _, ⟨T185, L185, k185, n185⟩, -, X185, ⟨Lc185, hQ185, l185, y185, z185⟩, st185⟩ := X184.virtualBack hx (y := (⟨"com/example/predicate/predicate/engine/FoldedTransactions", "isEmpty", "()Z"⟩ : MethodName)) (z := (⟨"com/example/predicate/predicate/engine/FoldedTransactions", "isEmpty", "()Z"⟩ : MethodName)) hown (mvT hZ (hw _ (List.mem_of_getElem? (i := 71) rfl))) (mvT hZ (hw _ (List.mem_of_getElem? (i := 72) rfl))) (notFace_of_selects (args := #[]) (mvT hZ (hw _ (List.mem_of_getElem? (i := 74) rfl)))) (mvT hZ (hw _ (List.mem_of_getElem? (i := 74) rfl))) (mvT hZ (hw _ (List.mem_of_getElem? (i := 73) rfl))) (by decide) (backOf (W := 0) (own_rmemp l Z aw hw [] b166 (own_mx aa bb) T179.heap n0 Z179 Bq179.2.2.2.2.1) hZ (hw _ (List.mem_of_getElem? (i := 75) rfl)) (hw _ (List.mem_of_getElem? (i := 34) rfl)) (by decide) (by decide)) q185a q185c (g := (mkF m 125 #[.val (.long c1), .second, .val (.long c2), .second, .val (.long hz), .second, .val (.long bd), .second, .val (.long po), .second, .val (.int fl), .val (.long aa), .second, .val (.long bb), .second, .val (.int (2 : Int32)), .val (.ref b162), .val (.ref b164), .val (.ref b166), .val (.int (1 : Int32)), .val (.long (own_mx aa bb)), .second, .unset, .unset] [(.ref b166)])) rfl (by rw [hml]; rfl) (Steps.refl _) (argsL := []) (rest := []) (lenOf own_pd5 rfl) rfl (by show 2 * 0 + _ ≤ _; exact Nat.le_of_eq rfl) (hb hby at_125) (fun _ _ => ⟨rfl, e184, (by decide : 12 + 0 ≤ _), (by decide : 58 + 0 ≤ _)⟩)
          dsimp only [Pt.U, Pt.locs, Pt.cells, Pt.slots] at X185 l185 y185 z185 st185 hQ185
          subst l185 y185 z185
          obtain ⟨rfl, N185q, e185⟩ := hQ185
          have N185 := Fr.app N184 N185q
          refine own_by (fun t k => st185.trans k) ?_
          rw [own_empp (own_mxp hpa)]
          show own_Go p.tables e below K (T185.setTop (mkF m 128 #[.val (.long c1), .second, .val (.long c2), .second, .val (.long hz), .second, .val (.long bd), .second, .val (.long po), .second, .val (.int fl), .val (.long aa), .second, .val (.long bb), .second, .val (.int (2 : Int32)), .val (.ref b162), .val (.ref b164), .val (.ref b166), .val (.int (1 : Int32)), .val (.long (own_mx aa bb)), .second, .unset, .unset] [(.int (0 : Int32))]))
          refine own_by (fun t k => XS.istore X185.here hx rfl (hb hby at_128) rfl (l' := #[.val (.long c1), .second, .val (.long c2), .second, .val (.long hz), .second, .val (.long bd), .second, .val (.long po), .second, .val (.int fl), .val (.long aa), .second, .val (.long bb), .second, .val (.int (2 : Int32)), .val (.ref b162), .val (.ref b164), .val (.ref b166), .val (.int (1 : Int32)), .val (.long (own_mx aa bb)), .second, .val (.int (0 : Int32)), .unset]) rfl k) ?_
          show own_Go p.tables e below K (T185.setTop (mkF m 130 #[.val (.long c1), .second, .val (.long c2), .second, .val (.long hz), .second, .val (.long bd), .second, .val (.long po), .second, .val (.int fl), .val (.long aa), .second, .val (.long bb), .second, .val (.int (2 : Int32)), .val (.ref b162), .val (.ref b164), .val (.ref b166), .val (.int (1 : Int32)), .val (.long (own_mx aa bb)), .second, .val (.int (0 : Int32)), .unset] []))
          refine own_by (fun t k => XS.aload X185.here hx rfl (hb hby at_130) rfl rfl k) ?_
          show own_Go p.tables e below K (T185.setTop (mkF m 132 #[.val (.long c1), .second, .val (.long c2), .second, .val (.long hz), .second, .val (.long bd), .second, .val (.long po), .second, .val (.int fl), .val (.long aa), .second, .val (.long bb), .second, .val (.int (2 : Int32)), .val (.ref b162), .val (.ref b164), .val (.ref b166), .val (.int (1 : Int32)), .val (.long (own_mx aa bb)), .second, .val (.int (0 : Int32)), .unset] [(.ref b166)]))
          refine own_by (fun t k => XS.lload X185.here hx rfl (hb hby at_132) rfl k) ?_
          show own_Go p.tables e below K (T185.setTop (mkF m 134 #[.val (.long c1), .second, .val (.long c2), .second, .val (.long hz), .second, .val (.long bd), .second, .val (.long po), .second, .val (.int fl), .val (.long aa), .second, .val (.long bb), .second, .val (.int (2 : Int32)), .val (.ref b162), .val (.ref b164), .val (.ref b166), .val (.int (1 : Int32)), .val (.long (own_mx aa bb)), .second, .val (.int (0 : Int32)), .unset] [(.long hz), (.ref b166)]))
          obtain ⟨cq186, kq186, q186a, q186b, q186c⟩ := isOf hZ e185 Bq179.1
          obtain ⟨_, _, ⟨T186, L186, k186, n186⟩, -, X186, ⟨Lc186, hQ186, l186, y186, z186⟩, st186⟩ := X185.virtualBack hx (y := (⟨"com/example/predicate/predicate/engine/FoldedTransactions", "forgetSeenWithin", "(J)V"⟩ : MethodName)) (z := (⟨"com/example/predicate/predicate/engine/FoldedTransactions", "forgetSeenWithin", "(J)V"⟩ : MethodName)) hown (mvT hZ (hw _ (List.mem_of_getElem? (i := 173) rfl))) (mvT hZ (hw _ (List.mem_of_getElem? (i := 174) rfl))) (notFace_of_selects (args := #[]) (mvT hZ (hw _ (List.mem_of_getElem? (i := 176) rfl)))) (mvT hZ (hw _ (List.mem_of_getElem? (i := 176) rfl))) (mvT hZ (hw _ (List.mem_of_getElem? (i := 175) rfl))) (by decide) (backOf (W := 0) (own_rmfgt2 l Z aw hw [] b166 hz hm167 dq167 el167 k167c (0 : Int32) (own_mx aa bb) T179.heap n0 Z179 Bq179 gn_b166 gh167 gd167 ge167) hZ (hw _ (List.mem_of_getElem? (i := 177) rfl)) (hw _ (List.mem_of_getElem? (i := 34) rfl)) (by decide) (by decide)) q186a q186c (g := (mkF m 134 #[.val (.long c1), .second, .val (.long c2), .second, .val (.long hz), .second, .val (.long bd), .second, .val (.long po), .second, .val (.int fl), .val (.long aa), .second, .val (.long bb), .second, .val (.int (2 : Int32)), .val (.ref b162), .val (.ref b164), .val (.ref b166), .val (.int (1 : Int32)), .val (.long (own_mx aa bb)), .second, .val (.int (0 : Int32)), .unset] [(.long hz), (.ref b166)])) rfl (by rw [hml]; rfl) (Steps.refl _) (argsL := [(.long hz)]) (rest := []) (lenOf own_pd12 rfl) rfl (by show 2 * 0 + _ ≤ _; exact Nat.le_of_eq rfl) (hb hby at_134) (fun _ _ => ⟨rfl, e185, (by decide : 12 + 0 ≤ _), (by decide : 58 + 0 ≤ _)⟩)
          dsimp only [Pt.U, Pt.locs, Pt.cells, Pt.slots] at X186 l186 y186 z186 st186 hQ186
          subst l186 y186 z186
          obtain ⟨rfl, N186q, Xp186, Lp186⟩ := hQ186
          have N186 := Fr.app N185 N186q
          refine own_by (fun t k => st186.trans k) ?_
          have Zq186 : n0 ≤ T186.heap.size := Nat.le_of_lt (Nat.lt_of_le_of_lt gn_b166 Xp186.lt)
          show own_Go p.tables e below K (T186.setTop (mkF m 137 #[.val (.long c1), .second, .val (.long c2), .second, .val (.long hz), .second, .val (.long bd), .second, .val (.long po), .second, .val (.int fl), .val (.long aa), .second, .val (.long bb), .second, .val (.int (2 : Int32)), .val (.ref b162), .val (.ref b164), .val (.ref b166), .val (.int (1 : Int32)), .val (.long (own_mx aa bb)), .second, .val (.int (0 : Int32)), .unset] []))
          refine own_by (fun t k => XS.aload X186.here hx rfl (hb hby at_137) rfl rfl k) ?_
          show own_Go p.tables e below K (T186.setTop (mkF m 139 #[.val (.long c1), .second, .val (.long c2), .second, .val (.long hz), .second, .val (.long bd), .second, .val (.long po), .second, .val (.int fl), .val (.long aa), .second, .val (.long bb), .second, .val (.int (2 : Int32)), .val (.ref b162), .val (.ref b164), .val (.ref b166), .val (.int (1 : Int32)), .val (.long (own_mx aa bb)), .second, .val (.int (0 : Int32)), .unset] [(.ref b166)]))
          obtain ⟨cq187, kq187, q187a, q187b, q187c⟩ := isOf hZ rfl Xp186
          obtain ⟨_, _, ⟨T187, L187, k187, n187⟩, -, X187, ⟨Lc187, hQ187, l187, y187, z187⟩, st187⟩ := X186.virtualBack hx (y := (⟨"com/example/predicate/predicate/engine/FoldedTransactions", "isEmpty", "()Z"⟩ : MethodName)) (z := (⟨"com/example/predicate/predicate/engine/FoldedTransactions", "isEmpty", "()Z"⟩ : MethodName)) hown (mvT hZ (hw _ (List.mem_of_getElem? (i := 71) rfl))) (mvT hZ (hw _ (List.mem_of_getElem? (i := 72) rfl))) (notFace_of_selects (args := #[]) (mvT hZ (hw _ (List.mem_of_getElem? (i := 74) rfl)))) (mvT hZ (hw _ (List.mem_of_getElem? (i := 74) rfl))) (mvT hZ (hw _ (List.mem_of_getElem? (i := 73) rfl))) (by decide) (backOf (W := 0) (own_rmemp l Z aw hw [] b166 (own_fgt (own_mx aa bb) hz) T186.heap n0 Zq186 Lp186) hZ (hw _ (List.mem_of_getElem? (i := 75) rfl)) (hw _ (List.mem_of_getElem? (i := 34) rfl)) (by decide) (by decide)) q187a q187c (g := (mkF m 139 #[.val (.long c1), .second, .val (.long c2), .second, .val (.long hz), .second, .val (.long bd), .second, .val (.long po), .second, .val (.int fl), .val (.long aa), .second, .val (.long bb), .second, .val (.int (2 : Int32)), .val (.ref b162), .val (.ref b164), .val (.ref b166), .val (.int (1 : Int32)), .val (.long (own_mx aa bb)), .second, .val (.int (0 : Int32)), .unset] [(.ref b166)])) rfl (by rw [hml]; rfl) (Steps.refl _) (argsL := []) (rest := []) (lenOf own_pd5 rfl) rfl (by show 2 * 0 + _ ≤ _; exact Nat.le_of_eq rfl) (hb hby at_139) (fun _ _ => ⟨rfl, rfl, (by decide : 12 + 0 ≤ _), (by decide : 58 + 0 ≤ _)⟩)
          dsimp only [Pt.U, Pt.locs, Pt.cells, Pt.slots] at X187 l187 y187 z187 st187 hQ187
          subst l187 y187 z187
          obtain ⟨rfl, N187q, e187⟩ := hQ187
          have N187 := Fr.app N186 N187q
          refine own_by (fun t k => st187.trans k) ?_
          show own_Go p.tables e below K (T187.setTop (mkF m 142 #[.val (.long c1), .second, .val (.long c2), .second, .val (.long hz), .second, .val (.long bd), .second, .val (.long po), .second, .val (.int fl), .val (.long aa), .second, .val (.long bb), .second, .val (.int (2 : Int32)), .val (.ref b162), .val (.ref b164), .val (.ref b166), .val (.int (1 : Int32)), .val (.long (own_mx aa bb)), .second, .val (.int (0 : Int32)), .unset] [(.int (own_emp (own_fgt (own_mx aa bb) hz)))]))
          refine own_by (fun t k => XS.istore X187.here hx rfl (hb hby at_142) rfl (l' := #[.val (.long c1), .second, .val (.long c2), .second, .val (.long hz), .second, .val (.long bd), .second, .val (.long po), .second, .val (.int fl), .val (.long aa), .second, .val (.long bb), .second, .val (.int (2 : Int32)), .val (.ref b162), .val (.ref b164), .val (.ref b166), .val (.int (1 : Int32)), .val (.long (own_mx aa bb)), .second, .val (.int (0 : Int32)), .val (.int (own_emp (own_fgt (own_mx aa bb) hz)))]) rfl k) ?_
          show own_Go p.tables e below K (T187.setTop (mkF m 144 #[.val (.long c1), .second, .val (.long c2), .second, .val (.long hz), .second, .val (.long bd), .second, .val (.long po), .second, .val (.int fl), .val (.long aa), .second, .val (.long bb), .second, .val (.int (2 : Int32)), .val (.ref b162), .val (.ref b164), .val (.ref b166), .val (.int (1 : Int32)), .val (.long (own_mx aa bb)), .second, .val (.int (0 : Int32)), .val (.int (own_emp (own_fgt (own_mx aa bb) hz)))] []))
          refine own_by (fun t k => XS.iload X187.here hx rfl (hb hby at_144) rfl k) ?_
          show own_Go p.tables e below K (T187.setTop (mkF m 146 #[.val (.long c1), .second, .val (.long c2), .second, .val (.long hz), .second, .val (.long bd), .second, .val (.long po), .second, .val (.int fl), .val (.long aa), .second, .val (.long bb), .second, .val (.int (2 : Int32)), .val (.ref b162), .val (.ref b164), .val (.ref b166), .val (.int (1 : Int32)), .val (.long (own_mx aa bb)), .second, .val (.int (0 : Int32)), .val (.int (own_emp (own_fgt (own_mx aa bb) hz)))] [(.int (1 : Int32))]))
          have hc146 : ¬ ((1 : Int32) = (0 : Int32)) := by decide
          refine own_by (fun t k => XS.ifNo X187.here hx rfl (hb hby at_146) rfl ((if0 _ _).trans (feq hc146).1) k) ?_
          show own_Go p.tables e below K (T187.setTop (mkF m 149 #[.val (.long c1), .second, .val (.long c2), .second, .val (.long hz), .second, .val (.long bd), .second, .val (.long po), .second, .val (.int fl), .val (.long aa), .second, .val (.long bb), .second, .val (.int (2 : Int32)), .val (.ref b162), .val (.ref b164), .val (.ref b166), .val (.int (1 : Int32)), .val (.long (own_mx aa bb)), .second, .val (.int (0 : Int32)), .val (.int (own_emp (own_fgt (own_mx aa bb) hz)))] []))
          refine own_by (fun t k => XS.iload X187.here hx rfl (hb hby at_149) rfl k) ?_
          show own_Go p.tables e below K (T187.setTop (mkF m 151 #[.val (.long c1), .second, .val (.long c2), .second, .val (.long hz), .second, .val (.long bd), .second, .val (.long po), .second, .val (.int fl), .val (.long aa), .second, .val (.long bb), .second, .val (.int (2 : Int32)), .val (.ref b162), .val (.ref b164), .val (.ref b166), .val (.int (1 : Int32)), .val (.long (own_mx aa bb)), .second, .val (.int (0 : Int32)), .val (.int (own_emp (own_fgt (own_mx aa bb) hz)))] [(.int (0 : Int32))]))
          refine own_by (fun t k => XS.iload X187.here hx rfl (hb hby at_151) rfl k) ?_
          show own_Go p.tables e below K (T187.setTop (mkF m 153 #[.val (.long c1), .second, .val (.long c2), .second, .val (.long hz), .second, .val (.long bd), .second, .val (.long po), .second, .val (.int fl), .val (.long aa), .second, .val (.long bb), .second, .val (.int (2 : Int32)), .val (.ref b162), .val (.ref b164), .val (.ref b166), .val (.int (1 : Int32)), .val (.long (own_mx aa bb)), .second, .val (.int (0 : Int32)), .val (.int (own_emp (own_fgt (own_mx aa bb) hz)))] [(.int (2 : Int32)), (.int (0 : Int32))]))
          have hc153 : ¬ ((2 : Int32) = (0 : Int32)) := by decide
          refine own_by (fun t k => XS.ifYes X187.here hx rfl (pc0 := 153) (pc' := 160) rfl (hb hby at_153) rfl ((if0 _ _).trans (feq hc153).2) (by decide) (by decide) k) ?_
          show own_Go p.tables e below K (T187.setTop (mkF m 160 #[.val (.long c1), .second, .val (.long c2), .second, .val (.long hz), .second, .val (.long bd), .second, .val (.long po), .second, .val (.int fl), .val (.long aa), .second, .val (.long bb), .second, .val (.int (2 : Int32)), .val (.ref b162), .val (.ref b164), .val (.ref b166), .val (.int (1 : Int32)), .val (.long (own_mx aa bb)), .second, .val (.int (0 : Int32)), .val (.int (own_emp (own_fgt (own_mx aa bb) hz)))] [(.int (0 : Int32))]))
          refine own_by (fun t k => XS.iconst X187.here hx rfl (hb hby at_160) k) ?_
          show own_Go p.tables e below K (T187.setTop (mkF m 161 #[.val (.long c1), .second, .val (.long c2), .second, .val (.long hz), .second, .val (.long bd), .second, .val (.long po), .second, .val (.int fl), .val (.long aa), .second, .val (.long bb), .second, .val (.int (2 : Int32)), .val (.ref b162), .val (.ref b164), .val (.ref b166), .val (.int (1 : Int32)), .val (.long (own_mx aa bb)), .second, .val (.int (0 : Int32)), .val (.int (own_emp (own_fgt (own_mx aa bb) hz)))] [(.int (0 : Int32)), (.int (0 : Int32))]))
          have hc161 : (0 : Int32) = (0 : Int32) := by decide
          refine own_by (fun t k => XS.icmpNo X187.here hx rfl (hb hby at_161) rfl (teq hc161).2 k) ?_
          show own_Go p.tables e below K (T187.setTop (mkF m 164 #[.val (.long c1), .second, .val (.long c2), .second, .val (.long hz), .second, .val (.long bd), .second, .val (.long po), .second, .val (.int fl), .val (.long aa), .second, .val (.long bb), .second, .val (.int (2 : Int32)), .val (.ref b162), .val (.ref b164), .val (.ref b166), .val (.int (1 : Int32)), .val (.long (own_mx aa bb)), .second, .val (.int (0 : Int32)), .val (.int (own_emp (own_fgt (own_mx aa bb) hz)))] []))
          refine own_by (fun t k => XS.iload X187.here hx rfl (hb hby at_164) rfl k) ?_
          show own_Go p.tables e below K (T187.setTop (mkF m 166 #[.val (.long c1), .second, .val (.long c2), .second, .val (.long hz), .second, .val (.long bd), .second, .val (.long po), .second, .val (.int fl), .val (.long aa), .second, .val (.long bb), .second, .val (.int (2 : Int32)), .val (.ref b162), .val (.ref b164), .val (.ref b166), .val (.int (1 : Int32)), .val (.long (own_mx aa bb)), .second, .val (.int (0 : Int32)), .val (.int (own_emp (own_fgt (own_mx aa bb) hz)))] [(.int (own_emp (own_fgt (own_mx aa bb) hz)))]))
          refine own_by (fun t k => XS.iload X187.here hx rfl (hb hby at_166) rfl k) ?_
          show own_Go p.tables e below K (T187.setTop (mkF m 168 #[.val (.long c1), .second, .val (.long c2), .second, .val (.long hz), .second, .val (.long bd), .second, .val (.long po), .second, .val (.int fl), .val (.long aa), .second, .val (.long bb), .second, .val (.int (2 : Int32)), .val (.ref b162), .val (.ref b164), .val (.ref b166), .val (.int (1 : Int32)), .val (.long (own_mx aa bb)), .second, .val (.int (0 : Int32)), .val (.int (own_emp (own_fgt (own_mx aa bb) hz)))] [(.int (2 : Int32)), (.int (own_emp (own_fgt (own_mx aa bb) hz)))]))
          have hc168 : ¬ ((2 : Int32) = (0 : Int32)) := by decide
          refine own_by (fun t k => XS.ifNo X187.here hx rfl (hb hby at_168) rfl ((if0 _ _).trans (feq hc168).1) k) ?_
          show own_Go p.tables e below K (T187.setTop (mkF m 171 #[.val (.long c1), .second, .val (.long c2), .second, .val (.long hz), .second, .val (.long bd), .second, .val (.long po), .second, .val (.int fl), .val (.long aa), .second, .val (.long bb), .second, .val (.int (2 : Int32)), .val (.ref b162), .val (.ref b164), .val (.ref b166), .val (.int (1 : Int32)), .val (.long (own_mx aa bb)), .second, .val (.int (0 : Int32)), .val (.int (own_emp (own_fgt (own_mx aa bb) hz)))] [(.int (own_emp (own_fgt (own_mx aa bb) hz)))]))
          refine own_by (fun t k => XS.lload X187.here hx rfl (hb hby at_171) rfl k) ?_
          show own_Go p.tables e below K (T187.setTop (mkF m 173 #[.val (.long c1), .second, .val (.long c2), .second, .val (.long hz), .second, .val (.long bd), .second, .val (.long po), .second, .val (.int fl), .val (.long aa), .second, .val (.long bb), .second, .val (.int (2 : Int32)), .val (.ref b162), .val (.ref b164), .val (.ref b166), .val (.int (1 : Int32)), .val (.long (own_mx aa bb)), .second, .val (.int (0 : Int32)), .val (.int (own_emp (own_fgt (own_mx aa bb) hz)))] [(.long (own_mx aa bb)), (.int (own_emp (own_fgt (own_mx aa bb) hz)))]))
          refine own_by (fun t k => XS.lload X187.here hx rfl (hb hby at_173) rfl k) ?_
          show own_Go p.tables e below K (T187.setTop (mkF m 175 #[.val (.long c1), .second, .val (.long c2), .second, .val (.long hz), .second, .val (.long bd), .second, .val (.long po), .second, .val (.int fl), .val (.long aa), .second, .val (.long bb), .second, .val (.int (2 : Int32)), .val (.ref b162), .val (.ref b164), .val (.ref b166), .val (.int (1 : Int32)), .val (.long (own_mx aa bb)), .second, .val (.int (0 : Int32)), .val (.int (own_emp (own_fgt (own_mx aa bb) hz)))] [(.long hz), (.long (own_mx aa bb)), (.int (own_emp (own_fgt (own_mx aa bb) hz)))]))
          refine own_by (fun t k => XS.lcmp X187.here hx rfl (hb hby at_175) rfl k) ?_
          show own_Go p.tables e below K (T187.setTop (mkF m 176 #[.val (.long c1), .second, .val (.long c2), .second, .val (.long hz), .second, .val (.long bd), .second, .val (.long po), .second, .val (.int fl), .val (.long aa), .second, .val (.long bb), .second, .val (.int (2 : Int32)), .val (.ref b162), .val (.ref b164), .val (.ref b166), .val (.int (1 : Int32)), .val (.long (own_mx aa bb)), .second, .val (.int (0 : Int32)), .val (.int (own_emp (own_fgt (own_mx aa bb) hz)))] [(.int (lcmpW (own_mx aa bb) hz)), (.int (own_emp (own_fgt (own_mx aa bb) hz)))]))
          by_cases hc176 : hz < (own_mx aa bb)
          · refine own_by (fun t k => XS.ifYes X187.here hx rfl (pc0 := 176) (pc' := 183) rfl (hb hby at_176) rfl (own_lgt hc176).1 (by decide) (by decide) k) ?_
            show own_Go p.tables e below K (T187.setTop (mkF m 183 #[.val (.long c1), .second, .val (.long c2), .second, .val (.long hz), .second, .val (.long bd), .second, .val (.long po), .second, .val (.int fl), .val (.long aa), .second, .val (.long bb), .second, .val (.int (2 : Int32)), .val (.ref b162), .val (.ref b164), .val (.ref b166), .val (.int (1 : Int32)), .val (.long (own_mx aa bb)), .second, .val (.int (0 : Int32)), .val (.int (own_emp (own_fgt (own_mx aa bb) hz)))] [(.int (own_emp (own_fgt (own_mx aa bb) hz)))]))
            refine own_by (fun t k => XS.iconst X187.here hx rfl (hb hby at_183) k) ?_
            show own_Go p.tables e below K (T187.setTop (mkF m 184 #[.val (.long c1), .second, .val (.long c2), .second, .val (.long hz), .second, .val (.long bd), .second, .val (.long po), .second, .val (.int fl), .val (.long aa), .second, .val (.long bb), .second, .val (.int (2 : Int32)), .val (.ref b162), .val (.ref b164), .val (.ref b166), .val (.int (1 : Int32)), .val (.long (own_mx aa bb)), .second, .val (.int (0 : Int32)), .val (.int (own_emp (own_fgt (own_mx aa bb) hz)))] [(.int (0 : Int32)), (.int (own_emp (own_fgt (own_mx aa bb) hz)))]))
            have hc184 : (own_emp (own_fgt (own_mx aa bb) hz)) = (0 : Int32) := by rw [own_e2 (own_mxp hpa), if_pos hc176]
            refine own_by (fun t k => XS.icmpNo X187.here hx rfl (hb hby at_184) rfl (teq hc184).2 k) ?_
            show own_Go p.tables e below K (T187.setTop (mkF m 187 #[.val (.long c1), .second, .val (.long c2), .second, .val (.long hz), .second, .val (.long bd), .second, .val (.long po), .second, .val (.int fl), .val (.long aa), .second, .val (.long bb), .second, .val (.int (2 : Int32)), .val (.ref b162), .val (.ref b164), .val (.ref b166), .val (.int (1 : Int32)), .val (.long (own_mx aa bb)), .second, .val (.int (0 : Int32)), .val (.int (own_emp (own_fgt (own_mx aa bb) hz)))] []))
            refine own_by (fun t k => XS.iconst X187.here hx rfl (hb hby at_187) k) ?_
            show own_Go p.tables e below K (T187.setTop (mkF m 188 #[.val (.long c1), .second, .val (.long c2), .second, .val (.long hz), .second, .val (.long bd), .second, .val (.long po), .second, .val (.int fl), .val (.long aa), .second, .val (.long bb), .second, .val (.int (2 : Int32)), .val (.ref b162), .val (.ref b164), .val (.ref b166), .val (.int (1 : Int32)), .val (.long (own_mx aa bb)), .second, .val (.int (0 : Int32)), .val (.int (own_emp (own_fgt (own_mx aa bb) hz)))] [(.int (1 : Int32))]))
            refine own_by (fun t k => XS.goto X187.here hx rfl (pc0 := 188) (pc' := 192) rfl (hb hby at_188) (by decide) (by decide) k) ?_
            show own_Go p.tables e below K (T187.setTop (mkF m 192 #[.val (.long c1), .second, .val (.long c2), .second, .val (.long hz), .second, .val (.long bd), .second, .val (.long po), .second, .val (.int fl), .val (.long aa), .second, .val (.long bb), .second, .val (.int (2 : Int32)), .val (.ref b162), .val (.ref b164), .val (.ref b166), .val (.int (1 : Int32)), .val (.long (own_mx aa bb)), .second, .val (.int (0 : Int32)), .val (.int (own_emp (own_fgt (own_mx aa bb) hz)))] [(.int (1 : Int32))]))
            exact own_retZ X187 hx (t := .boolean) hret (by simp) (hb hby at_192) (hK (some (.int (1 : Int32))) X187 (fun h => by rw [hret] at h; cases h) (⟨rfl, N187⟩) (by decide) (by decide))
          · refine own_by (fun t k => XS.ifNo X187.here hx rfl (hb hby at_176) rfl (own_lle hc176).1 k) ?_
            show own_Go p.tables e below K (T187.setTop (mkF m 179 #[.val (.long c1), .second, .val (.long c2), .second, .val (.long hz), .second, .val (.long bd), .second, .val (.long po), .second, .val (.int fl), .val (.long aa), .second, .val (.long bb), .second, .val (.int (2 : Int32)), .val (.ref b162), .val (.ref b164), .val (.ref b166), .val (.int (1 : Int32)), .val (.long (own_mx aa bb)), .second, .val (.int (0 : Int32)), .val (.int (own_emp (own_fgt (own_mx aa bb) hz)))] [(.int (own_emp (own_fgt (own_mx aa bb) hz)))]))
            refine own_by (fun t k => XS.iconst X187.here hx rfl (hb hby at_179) k) ?_
            show own_Go p.tables e below K (T187.setTop (mkF m 180 #[.val (.long c1), .second, .val (.long c2), .second, .val (.long hz), .second, .val (.long bd), .second, .val (.long po), .second, .val (.int fl), .val (.long aa), .second, .val (.long bb), .second, .val (.int (2 : Int32)), .val (.ref b162), .val (.ref b164), .val (.ref b166), .val (.int (1 : Int32)), .val (.long (own_mx aa bb)), .second, .val (.int (0 : Int32)), .val (.int (own_emp (own_fgt (own_mx aa bb) hz)))] [(.int (1 : Int32)), (.int (own_emp (own_fgt (own_mx aa bb) hz)))]))
            refine own_by (fun t k => XS.goto X187.here hx rfl (pc0 := 180) (pc' := 184) rfl (hb hby at_180) (by decide) (by decide) k) ?_
            show own_Go p.tables e below K (T187.setTop (mkF m 184 #[.val (.long c1), .second, .val (.long c2), .second, .val (.long hz), .second, .val (.long bd), .second, .val (.long po), .second, .val (.int fl), .val (.long aa), .second, .val (.long bb), .second, .val (.int (2 : Int32)), .val (.ref b162), .val (.ref b164), .val (.ref b166), .val (.int (1 : Int32)), .val (.long (own_mx aa bb)), .second, .val (.int (0 : Int32)), .val (.int (own_emp (own_fgt (own_mx aa bb) hz)))] [(.int (1 : Int32)), (.int (own_emp (own_fgt (own_mx aa bb) hz)))]))
            have hc184 : (own_emp (own_fgt (own_mx aa bb) hz)) = (1 : Int32) := by rw [own_e2 (own_mxp hpa), if_neg hc176]
            refine own_by (fun t k => XS.icmpNo X187.here hx rfl (hb hby at_184) rfl (teq hc184).2 k) ?_
            show own_Go p.tables e below K (T187.setTop (mkF m 187 #[.val (.long c1), .second, .val (.long c2), .second, .val (.long hz), .second, .val (.long bd), .second, .val (.long po), .second, .val (.int fl), .val (.long aa), .second, .val (.long bb), .second, .val (.int (2 : Int32)), .val (.ref b162), .val (.ref b164), .val (.ref b166), .val (.int (1 : Int32)), .val (.long (own_mx aa bb)), .second, .val (.int (0 : Int32)), .val (.int (own_emp (own_fgt (own_mx aa bb) hz)))] []))
            refine own_by (fun t k => XS.iconst X187.here hx rfl (hb hby at_187) k) ?_
            show own_Go p.tables e below K (T187.setTop (mkF m 188 #[.val (.long c1), .second, .val (.long c2), .second, .val (.long hz), .second, .val (.long bd), .second, .val (.long po), .second, .val (.int fl), .val (.long aa), .second, .val (.long bb), .second, .val (.int (2 : Int32)), .val (.ref b162), .val (.ref b164), .val (.ref b166), .val (.int (1 : Int32)), .val (.long (own_mx aa bb)), .second, .val (.int (0 : Int32)), .val (.int (own_emp (own_fgt (own_mx aa bb) hz)))] [(.int (1 : Int32))]))
            refine own_by (fun t k => XS.goto X187.here hx rfl (pc0 := 188) (pc' := 192) rfl (hb hby at_188) (by decide) (by decide) k) ?_
            show own_Go p.tables e below K (T187.setTop (mkF m 192 #[.val (.long c1), .second, .val (.long c2), .second, .val (.long hz), .second, .val (.long bd), .second, .val (.long po), .second, .val (.int fl), .val (.long aa), .second, .val (.long bb), .second, .val (.int (2 : Int32)), .val (.ref b162), .val (.ref b164), .val (.ref b166), .val (.int (1 : Int32)), .val (.long (own_mx aa bb)), .second, .val (.int (0 : Int32)), .val (.int (own_emp (own_fgt (own_mx aa bb) hz)))] [(.int (1 : Int32))]))
            exact own_retZ X187 hx (t := .boolean) hret (by simp) (hb hby at_192) (hK (some (.int (1 : Int32))) X187 (fun h => by rw [hret] at h; cases h) (⟨rfl, N187⟩) (by decide) (by decide))
  exact J31 _ (own_012 (own_mod fl 3 2 (by decide)))
set_option maxRecDepth 65536 in
set_option maxHeartbeats 40000000 in
theorem own_comes {Post : Tables → Env → Array Value → State → Outcome → State → Prop} (hpost : ∀ tb e args s v u, (limb_1_1.after args s (.returned v) u = true ∧ limb_1_2.after args s (.returned v) u = true ∧ True) → FrameEnd s (.returned v) u (Jvm.fieldLocs frame_1_writes args s ++ Jvm.arrayLocs frame_1_arrays args s ++ Jvm.staticLocs frame_1_statics s) 32 192 → Post tb e args s (.returned v) u) :
    ArmFor flags0 classFile x code maxLocals ret World_1 tables_1 room_1 Calls_1 rest_1 Pre_1 Post := by
  intro l hfl _ _ p e ha hc hk s m args below hf hA hF happ hP
  obtain ⟨hcalls, hrest, hpre⟩ := hP
  obtain ⟨-, -, -, hnamed, -, -, -, hat⟩ := (Spec.applies_iff hf).mp happ
  obtain ⟨hg, hn⟩ := and_e (Cond.before_iff.mp (show (Jvm.Cond.and given_1 narrow_1).before args s = true from hpre))
  obtain ⟨hcount, g0⟩ := and_e hg
  obtain ⟨a0, g1⟩ := and_e g0
  obtain ⟨a1, g2⟩ := and_e g1
  obtain ⟨a2, g3⟩ := and_e g2
  obtain ⟨a3, g4⟩ := and_e g3
  obtain ⟨a4, g5⟩ := and_e g4
  obtain ⟨w0, w1, w2, w3, w4, w5, rfl⟩ : ∃ w0 w1 w2 w3 w4 w5 : Value, args = #[w0, w1, w2, w3, w4, w5] := by
    have hs : args.size = 6 := by simpa [Cond.value, given_1] using hcount
    obtain ⟨L⟩ := args
    match L, hs with
    | [w0, w1, w2, w3, w4, w5], _ => exact ⟨w0, w1, w2, w3, w4, w5, rfl⟩
  have hw := fun d (hd : d ∈ tables_1) => atoms_spec (ws := Jvm.Cond.code x code maxLocals ret :: tables_1) hat d (List.mem_cons_of_mem _ hd)
  have hfit : Fit s := fun {y c} hc i hi => by
    obtain ⟨ha, rfl⟩ := Array.getElem?_eq_some_iff.mp hc
    have q := List.all_eq_true.mp ((Array.all_eq_true_iff_forall_mem.mp hF) _ (Array.getElem_mem ha)) i (List.mem_range.mpr hi)
    simpa [Array.getElem?_eq_getElem hi] using q
  obtain ⟨hsets, hown0⟩ := atoms_of _ (rest_1_c_eq ▸ (show rest_1_c.before _ s = true from hrest))
  have hr0 := Cond.before_iff.mp hown0
  obtain ⟨i0, ei0⟩ := isL_v a0
  obtain rfl : w0 = (.long i0) := Option.some.inj ei0
  obtain ⟨i1, ei1⟩ := isL_v a1
  obtain rfl : w1 = (.long i1) := Option.some.inj ei1
  obtain ⟨i2, ei2⟩ := isL_v a2
  obtain rfl : w2 = (.long i2) := Option.some.inj ei2
  obtain ⟨i3, ei3⟩ := isL_v a3
  obtain rfl : w3 = (.long i3) := Option.some.inj ei3
  obtain ⟨i4, ei4⟩ := isL_v a4
  obtain rfl : w4 = (.long i4) := Option.some.inj ei4
  obtain ⟨i5, ei5⟩ := is_v g5
  obtain rfl : w5 = (.int i5) := Option.some.inj ei5
  obtain ⟨dd, evD⟩ := arr_v (Cond.before_iff.mp (hsets _ (List.mem_of_getElem? (i := 6) rfl)))
  have S_D := Sta.start evD (Or.inr ⟨(hw _ (List.mem_of_getElem? (i := 8) rfl)), hsets _ (List.mem_of_getElem? (i := 2) rfl)⟩)
  obtain ⟨n, o, h1, h2, h3, _, L, rfl, ⟨rfl, N⟩, hq⟩ := own_rm0 l s _ hw tables_1 i0 i1 i2 i3 i4 i5 dd s.heap s.heap.size (Nat.le_refl _) (Old.start s) S_D p e ha hc hk s m _ below hf ((Spec.applies_iff_loose hf).mp happ).1 ⟨rfl, State.Warmed39.refl s, rfl⟩ trivial
  refine ⟨n, _, h1, h2, h3, hpost _ _ _ _ _ _ ⟨Cond.after_iff.mpr rfl, Cond.after_iff.mpr (eq_i res_at (Term.int_eval (1)) rfl), trivial⟩ ⟨hq.1, hq.2.1, (hq.2.2.sift fun y hy => Or.inr (N y hy)).mono (by decide) (by decide)⟩⟩
theorem main_1_1 : Claimed_1_1 := own_comes fun _ _ _ _ _ _ h hF => ⟨h.1, hF⟩
theorem main_1_2 : Claimed_1_2 := own_comes fun _ _ _ _ _ _ h hF => ⟨h.2.1, hF⟩
end Jvm.Pilot.@@N@@
namespace Jvm.Pilot.@@N@@
open Jvm Jvm.ClassFile Sem Op Lib Jvm.Free Jvm.Stand Jvm.Pilot.@@N@@.Jvm.D
/-! MADE BY PROGRAM (witnessworld.py) out of the Statement's table words and the real class files: 29 classes; the members and pool entries that the words name. The judged class is class 1, her method 1. -/
namespace start1
open Jvm.ClassFile
def u (s : String) : CpInfo := .utf8 (stringToUtf16 s)
/-- a pool by its gaps: so many unusable entries, then the entry; so many at the end -/
def gap : Nat → List CpInfo → List CpInfo
  | 0, r => r
  | n + 1, r => .unusable :: gap n r
def poolList (es : List (Nat × CpInfo)) (last : Nat) : List CpInfo := es.foldr (fun e r => gap e.1 (e.2 :: r)) (gap last [])
def pool (es : List (Nat × CpInfo)) (last : Nat) : Array CpInfo := ⟨poolList es last⟩
def fileOf (pool : Array CpInfo) (this : Nat) (attrs : Array Attribute := #[]) (ms : Array MethodInfo := #[]) (fl : Nat := 33) (sup : Nat := 0) (ifs : Array Nat := #[]) (fds : Array FieldInfo := #[]) : ClassFile where
  minorVersion := 0
  majorVersion := 65
  constantPool := pool
  accessFlags := fl
  thisClass := this
  superClass := sup
  interfaces := ifs
  fields := fds
  methods := ms
  attributes := attrs
def plain (name : String) (sup : Option ClassId) : Class where
  name := name
  kind := .ordinary
  loader := none
  accessFlags := 33
  super := sup
  interfaces := #[]
  cf := none
  fields := #[]
  methods := #[]
  instanceTypes := #[]
  staticTypes := #[]
  resolved := #[]
  callSites := []
  init := .initialized
  statics := none
  mirror := none

def pool0 : Array CpInfo := pool [(5, u "<init>"), (0, u "()V"), (1, .class_ 10), (1, u "java/lang/Object")] 113

def k0c0 : Code := { maxStack := 0, maxLocals := 1, code := object_method_1_code, exceptionTable := #[], attributes := #[] }
def k0m0 : Method := { name := "<init>", desc := "()V", sig := { parameters := [], returnType := none }, accessFlags := 1, code := some k0c0 }
/-- java/lang/Object -/
def k0 : Class := { plain "java/lang/Object" none with
  accessFlags := 33
  interfaces := #[]
  cf := some (fileOf pool0 8 #[] #[{ accessFlags := 1, nameIndex := 5, descriptorIndex := 6, attributes := #[] }] 33 0 #[] #[])
  fields := #[]
  methods := #[k0m0]
  instanceTypes := #[]
  staticTypes := #[]
  resolved := Array.replicate 124 none
  statics := none }

def pool1 : Array CpInfo := pool [(2, .class_ 4), (0, .nameAndType 5 6), (0, u "java/lang/Object"), (0, u "<init>"), (0, u "()V"), (2, .long 9223372036854775807), (1, .methodref 12 13), (0, .class_ 14), (0, .nameAndType 15 16), (0, u "java/lang/Math"), (0, u "max"), (0, u "(JJ)J"), (0, .integer 2147483647), (0, .class_ 19), (0, u "java/util/ArrayList"), (0, .methodref 18 3), (0, .class_ 22), (0, u "com/example/predicate/predicate/engine/FoldedTransactions"), (0, .methodref 21 3), (0, .methodref 21 25), (0, .nameAndType 26 27), (0, u "isEmpty"), (0, u "()Z"), (0, .methodref 21 29), (0, .nameAndType 30 31), (0, u "add"), (0, u "(Ljava/util/List;Ljava/util/List;JJJ)V"), (0, .methodref 21 33), (0, .nameAndType 34 35), (0, u "forgetSeenWithin"), (0, u "(J)V"), (0, .class_ 37), (0, u "com/example/predicate/predicate/engine/FoldedTransactionsIsEmptyPinLaw"), (2, u "law"), (0, u "(JJJJJI)Z")] 3

def k1m0 : Method := { name := "<init>", desc := "()V", sig := { parameters := [], returnType := none }, accessFlags := 1, code := none }
def k1c1 : Code := { maxStack := 9, maxLocals := 24, code := code, exceptionTable := #[], attributes := #[] }
def k1m1 : Method := { name := "law", desc := "(JJJJJI)Z", sig := { parameters := [.long, .long, .long, .long, .long, .int], returnType := some .boolean }, accessFlags := 9, code := some k1c1 }
/-- com/example/predicate/predicate/engine/FoldedTransactionsIsEmptyPinLaw -/
def k1 : Class := { plain "com/example/predicate/predicate/engine/FoldedTransactionsIsEmptyPinLaw" (some 0) with
  accessFlags := 49
  interfaces := #[]
  cf := some (fileOf pool1 36 #[] #[{ accessFlags := 1, nameIndex := 5, descriptorIndex := 6, attributes := #[] }, { accessFlags := 9, nameIndex := 40, descriptorIndex := 41, attributes := #[] }] 49 2 #[] #[])
  fields := #[]
  methods := #[k1m0, k1m1]
  instanceTypes := #[]
  staticTypes := #[]
  resolved := Array.replicate 45 none
  statics := none }

def pool2 : Array CpInfo := pool [(1, .class_ 2), (0, u "java/lang/Math"), (1, .class_ 6), (1, u "java/lang/Object"), (0, u "<init>"), (0, u "()V"), (89, .class_ 100), (1, u "java/lang/Math$RandomNumberGeneratorHolder"), (20, u "(JJ)J"), (50, u "negativeZeroFloatBits"), (0, u "J"), (2, u "negativeZeroDoubleBits"), (21, u "max"), (46, u "$assertionsDisabled"), (0, u "Z"), (91, u "twoToTheDoubleScaleDown"), (0, u "D"), (4, u "twoToTheDoubleScaleUp"), (9, u "E"), (3, u "PI"), (2, u "TAU"), (2, u "DEGREES_TO_RADIANS"), (0, u "RADIANS_TO_DEGREES")] 94

def k2m0 : Method := { name := "<init>", desc := "()V", sig := { parameters := [], returnType := none }, accessFlags := 2, code := none }
def k2c1 : Code := { maxStack := 4, maxLocals := 4, code := jdk_29_method_66_code, exceptionTable := #[], attributes := #[] }
def k2m1 : Method := { name := "max", desc := "(JJ)J", sig := { parameters := [.long, .long], returnType := some .long }, accessFlags := 9, code := some k2c1 }
/-- java/lang/Math -/
def k2 : Class := { plain "java/lang/Math" (some 0) with
  accessFlags := 49
  interfaces := #[]
  cf := some (fileOf pool2 1 #[.nestMembers #[98]] #[{ accessFlags := 2, nameIndex := 7, descriptorIndex := 8, attributes := #[] }, { accessFlags := 9, nameIndex := 198, descriptorIndex := 121, attributes := #[] }] 49 4 #[] #[{ accessFlags := 25, nameIndex := 354, descriptorIndex := 339, attributes := #[] }, { accessFlags := 25, nameIndex := 358, descriptorIndex := 339, attributes := #[] }, { accessFlags := 25, nameIndex := 361, descriptorIndex := 339, attributes := #[] }, { accessFlags := 26, nameIndex := 364, descriptorIndex := 339, attributes := #[] }, { accessFlags := 26, nameIndex := 365, descriptorIndex := 339, attributes := #[] }, { accessFlags := 26, nameIndex := 172, descriptorIndex := 173, attributes := #[] }, { accessFlags := 26, nameIndex := 176, descriptorIndex := 173, attributes := #[] }, { accessFlags := 8, nameIndex := 344, descriptorIndex := 339, attributes := #[] }, { accessFlags := 8, nameIndex := 338, descriptorIndex := 339, attributes := #[] }, { accessFlags := 4120, nameIndex := 245, descriptorIndex := 246, attributes := #[] }])
  fields := #[{ name := "E", type := .double, accessFlags := 25, slot := 0, constantValue := 0 }, { name := "PI", type := .double, accessFlags := 25, slot := 1, constantValue := 0 }, { name := "TAU", type := .double, accessFlags := 25, slot := 2, constantValue := 0 }, { name := "DEGREES_TO_RADIANS", type := .double, accessFlags := 26, slot := 3, constantValue := 0 }, { name := "RADIANS_TO_DEGREES", type := .double, accessFlags := 26, slot := 4, constantValue := 0 }, { name := "negativeZeroFloatBits", type := .long, accessFlags := 26, slot := 5, constantValue := 0 }, { name := "negativeZeroDoubleBits", type := .long, accessFlags := 26, slot := 6, constantValue := 0 }, { name := "twoToTheDoubleScaleUp", type := .double, accessFlags := 8, slot := 7, constantValue := 0 }, { name := "twoToTheDoubleScaleDown", type := .double, accessFlags := 8, slot := 8, constantValue := 0 }, { name := "$assertionsDisabled", type := .boolean, accessFlags := 4120, slot := 9, constantValue := 0 }]
  methods := #[k2m0, k2m1]
  instanceTypes := #[]
  staticTypes := #[.double, .double, .double, .double, .double, .long, .long, .double, .double, .boolean]
  resolved := Array.replicate 460 none
  statics := none }

def pool3 : Array CpInfo := pool [(8, .class_ 10), (1, u "java/lang/Iterable"), (24, .class_ 36), (0, u "java/lang/Object")] 25

/-- java/lang/Iterable -/
def k3 : Class := { plain "java/lang/Iterable" (some 0) with
  accessFlags := 1537
  interfaces := #[]
  cf := some (fileOf pool3 8 #[] #[] 1537 35 #[] #[])
  fields := #[]
  methods := #[]
  instanceTypes := #[]
  staticTypes := #[]
  resolved := Array.replicate 62 none
  statics := none }

def pool4 : Array CpInfo := pool [(10, .class_ 12), (1, u "java/util/Collection"), (31, u "()V"), (15, .class_ 61), (0, u "java/lang/Object"), (0, .class_ 63), (0, u "java/lang/Iterable"), (41, u "clear")] 9

def k4m0 : Method := { name := "clear", desc := "()V", sig := { parameters := [], returnType := none }, accessFlags := 1025, code := none }
/-- java/util/Collection -/
def k4 : Class := { plain "java/util/Collection" (some 0) with
  accessFlags := 1537
  interfaces := #[3]
  cf := some (fileOf pool4 10 #[] #[{ accessFlags := 1025, nameIndex := 105, descriptorIndex := 44, attributes := #[] }] 1537 60 #[62] #[])
  fields := #[]
  methods := #[k4m0]
  instanceTypes := #[]
  staticTypes := #[]
  resolved := Array.replicate 115 none
  statics := none }

def pool5 : Array CpInfo := pool [(1, .methodref 2 3), (0, .class_ 4), (0, .nameAndType 5 6), (0, u "java/lang/Object"), (0, u "<init>"), (0, u "()V"), (1, .class_ 10), (1, u "java/util/AbstractCollection"), (66, .class_ 78), (0, u "java/util/Collection")] 81

def k5c0 : Code := { maxStack := 1, maxLocals := 1, code := jdk_22_method_1_code, exceptionTable := #[], attributes := #[] }
def k5m0 : Method := { name := "<init>", desc := "()V", sig := { parameters := [], returnType := none }, accessFlags := 4, code := some k5c0 }
/-- java/util/AbstractCollection -/
def k5 : Class := { plain "java/util/AbstractCollection" (some 0) with
  accessFlags := 1057
  interfaces := #[4]
  cf := some (fileOf pool5 8 #[] #[{ accessFlags := 4, nameIndex := 5, descriptorIndex := 6, attributes := #[] }] 1057 2 #[77] #[])
  fields := #[]
  methods := #[k5m0]
  instanceTypes := #[]
  staticTypes := #[]
  resolved := Array.replicate 160 none
  statics := none }

def pool6 : Array CpInfo := pool [(8, .class_ 10), (1, u "java/util/SequencedCollection"), (15, .class_ 27), (0, u "java/lang/Object"), (0, .class_ 29), (0, u "java/util/Collection")] 27

/-- java/util/SequencedCollection -/
def k6 : Class := { plain "java/util/SequencedCollection" (some 0) with
  accessFlags := 1537
  interfaces := #[4]
  cf := some (fileOf pool6 8 #[] #[] 1537 26 #[28] #[])
  fields := #[]
  methods := #[]
  instanceTypes := #[]
  staticTypes := #[]
  resolved := Array.replicate 57 none
  statics := none }

def pool7 : Array CpInfo := pool [(8, .class_ 10), (1, u "java/util/List"), (68, u "size"), (0, u "()I"), (22, .class_ 104), (0, u "java/lang/Object"), (15, .class_ 121), (0, u "java/util/SequencedCollection"), (1, u "iterator"), (0, u "()Ljava/util/Iterator;")] 126

def k7m0 : Method := { name := "size", desc := "()I", sig := { parameters := [], returnType := some .int }, accessFlags := 1025, code := none }
def k7m1 : Method := { name := "iterator", desc := "()Ljava/util/Iterator;", sig := { parameters := [], returnType := some (.object "java/util/Iterator") }, accessFlags := 1025, code := none }
/-- java/util/List -/
def k7 : Class := { plain "java/util/List" (some 0) with
  accessFlags := 1537
  interfaces := #[6]
  cf := some (fileOf pool7 8 #[] #[{ accessFlags := 1025, nameIndex := 79, descriptorIndex := 80, attributes := #[] }, { accessFlags := 1025, nameIndex := 123, descriptorIndex := 124, attributes := #[] }] 1537 103 #[120] #[])
  fields := #[]
  methods := #[k7m0, k7m1]
  instanceTypes := #[]
  staticTypes := #[]
  resolved := Array.replicate 251 none
  statics := none }

def pool8 : Array CpInfo := pool [(1, .methodref 2 3), (0, .class_ 4), (0, .nameAndType 5 6), (0, u "java/util/AbstractCollection"), (0, u "<init>"), (0, u "()V"), (0, .fieldref 8 9), (0, .class_ 10), (0, .nameAndType 11 12), (0, u "java/util/AbstractList"), (0, u "modCount"), (0, u "I"), (64, .class_ 78), (0, u "java/util/AbstractList$Itr"), (3, .class_ 83), (0, u "java/util/AbstractList$ListItr"), (9, .class_ 94), (0, u "java/util/AbstractList$RandomAccessSubList"), (3, .class_ 99), (0, u "java/util/AbstractList$SubList"), (33, .class_ 134), (0, u "java/util/List"), (73, .class_ 209), (0, u "java/util/AbstractList$SubList$1"), (0, .class_ 211), (0, u "java/util/AbstractList$RandomAccessSpliterator")] 6

def k8c0 : Code := { maxStack := 2, maxLocals := 1, code := jdk_39_method_1_code, exceptionTable := #[], attributes := #[] }
def k8m0 : Method := { name := "<init>", desc := "()V", sig := { parameters := [], returnType := none }, accessFlags := 4, code := some k8c0 }
/-- java/util/AbstractList -/
def k8 : Class := { plain "java/util/AbstractList" (some 5) with
  accessFlags := 1057
  interfaces := #[7]
  cf := some (fileOf pool8 8 #[.nestMembers #[93, 98, 208, 210, 82, 77]] #[{ accessFlags := 4, nameIndex := 5, descriptorIndex := 6, attributes := #[] }] 1057 2 #[133] #[{ accessFlags := 132, nameIndex := 11, descriptorIndex := 12, attributes := #[] }])
  fields := #[{ name := "modCount", type := .int, accessFlags := 132, slot := 0, constantValue := 0 }]
  methods := #[k8m0]
  instanceTypes := #[.int]
  staticTypes := #[]
  resolved := Array.replicate 218 none
  statics := none }

def pool9 : Array CpInfo := pool [(1, .class_ 2), (0, u "java/util/RandomAccess"), (0, .class_ 4), (0, u "java/lang/Object")] 2

/-- java/util/RandomAccess -/
def k9 : Class := { plain "java/util/RandomAccess" (some 0) with
  accessFlags := 1537
  interfaces := #[]
  cf := some (fileOf pool9 1 #[] #[] 1537 3 #[] #[])
  fields := #[]
  methods := #[]
  instanceTypes := #[]
  staticTypes := #[]
  resolved := Array.replicate 7 none
  statics := none }

def pool10 : Array CpInfo := pool [(1, .class_ 2), (0, u "java/lang/Cloneable"), (0, .class_ 4), (0, u "java/lang/Object")] 2

/-- java/lang/Cloneable -/
def k10 : Class := { plain "java/lang/Cloneable" (some 0) with
  accessFlags := 1537
  interfaces := #[]
  cf := some (fileOf pool10 1 #[] #[] 1537 3 #[] #[])
  fields := #[]
  methods := #[]
  instanceTypes := #[]
  staticTypes := #[]
  resolved := Array.replicate 7 none
  statics := none }

def pool11 : Array CpInfo := pool [(1, .class_ 2), (0, u "java/io/Serializable"), (0, .class_ 4), (0, u "java/lang/Object")] 2

/-- java/io/Serializable -/
def k11 : Class := { plain "java/io/Serializable" (some 0) with
  accessFlags := 1537
  interfaces := #[]
  cf := some (fileOf pool11 1 #[] #[] 1537 3 #[] #[])
  fields := #[]
  methods := #[]
  instanceTypes := #[]
  staticTypes := #[]
  resolved := Array.replicate 7 none
  statics := none }

def pool12 : Array CpInfo := pool [(1, .methodref 2 3), (0, .class_ 4), (0, .nameAndType 5 6), (0, u "java/util/AbstractList"), (0, u "<init>"), (0, u "()V"), (2, .fieldref 10 11), (0, .class_ 12), (0, .nameAndType 13 14), (0, u "java/util/ArrayList"), (0, u "elementData"), (0, u "[Ljava/lang/Object;"), (2, u "EMPTY_ELEMENTDATA"), (21, .fieldref 10 40), (0, .nameAndType 41 14), (0, u "DEFAULTCAPACITY_EMPTY_ELEMENTDATA"), (6, .fieldref 10 49), (0, .nameAndType 50 51), (0, u "size"), (0, u "I"), (96, .class_ 149), (0, u "java/util/List"), (16, u "iterator"), (0, u "()Ljava/util/Iterator;"), (18, u "()I"), (75, .class_ 263), (0, u "java/util/ArrayList$ListItr"), (3, .class_ 268), (0, u "java/util/ArrayList$Itr"), (0, .methodref 267 270), (0, .nameAndType 5 271), (0, u "(Ljava/util/ArrayList;)V"), (4, .class_ 277), (0, u "java/util/ArrayList$SubList"), (12, .class_ 291), (0, u "java/util/ArrayList$ArrayListSpliterator"), (37, .class_ 330), (0, u "java/util/RandomAccess"), (0, .class_ 332), (0, u "java/lang/Cloneable"), (0, .class_ 334), (0, u "java/io/Serializable"), (0, u "serialVersionUID"), (0, u "J"), (3, u "DEFAULT_CAPACITY"), (159, .class_ 501), (0, u "java/util/ArrayList$SubList$2"), (0, .class_ 503), (0, u "java/util/ArrayList$SubList$1")] 5

def k12c0 : Code := { maxStack := 2, maxLocals := 1, code := jdk_38_method_2_code, exceptionTable := #[], attributes := #[] }
def k12m0 : Method := { name := "<init>", desc := "()V", sig := { parameters := [], returnType := none }, accessFlags := 1, code := some k12c0 }
def k12c1 : Code := { maxStack := 1, maxLocals := 1, code := jdk_38_method_8_code, exceptionTable := #[], attributes := #[] }
def k12m1 : Method := { name := "size", desc := "()I", sig := { parameters := [], returnType := some .int }, accessFlags := 1, code := some k12c1 }
def k12c2 : Code := { maxStack := 3, maxLocals := 1, code := jdk_38_method_55_code, exceptionTable := #[], attributes := #[] }
def k12m2 : Method := { name := "iterator", desc := "()Ljava/util/Iterator;", sig := { parameters := [], returnType := some (.object "java/util/Iterator") }, accessFlags := 1, code := some k12c2 }
/-- java/util/ArrayList -/
def k12 : Class := { plain "java/util/ArrayList" (some 8) with
  accessFlags := 33
  interfaces := #[7, 9, 10, 11]
  cf := some (fileOf pool12 10 #[.nestMembers #[290, 276, 500, 502, 262, 267]] #[{ accessFlags := 1, nameIndex := 5, descriptorIndex := 6, attributes := #[] }, { accessFlags := 1, nameIndex := 50, descriptorIndex := 186, attributes := #[] }, { accessFlags := 1, nameIndex := 166, descriptorIndex := 167, attributes := #[] }] 33 2 #[148, 329, 331, 333] #[{ accessFlags := 26, nameIndex := 335, descriptorIndex := 336, attributes := #[] }, { accessFlags := 26, nameIndex := 340, descriptorIndex := 51, attributes := #[] }, { accessFlags := 26, nameIndex := 17, descriptorIndex := 14, attributes := #[] }, { accessFlags := 26, nameIndex := 41, descriptorIndex := 14, attributes := #[] }, { accessFlags := 128, nameIndex := 13, descriptorIndex := 14, attributes := #[] }, { accessFlags := 2, nameIndex := 50, descriptorIndex := 51, attributes := #[] }])
  fields := #[{ name := "serialVersionUID", type := .long, accessFlags := 26, slot := 0, constantValue := 0 }, { name := "DEFAULT_CAPACITY", type := .int, accessFlags := 26, slot := 1, constantValue := 0 }, { name := "EMPTY_ELEMENTDATA", type := (.array (.object "java/lang/Object")), accessFlags := 26, slot := 2, constantValue := 0 }, { name := "DEFAULTCAPACITY_EMPTY_ELEMENTDATA", type := (.array (.object "java/lang/Object")), accessFlags := 26, slot := 3, constantValue := 0 }, { name := "elementData", type := (.array (.object "java/lang/Object")), accessFlags := 128, slot := 1, constantValue := 0 }, { name := "size", type := .int, accessFlags := 2, slot := 2, constantValue := 0 }]
  methods := #[k12m0, k12m1, k12m2]
  instanceTypes := #[.int, (.array (.object "java/lang/Object")), .int]
  staticTypes := #[.long, .int, (.array (.object "java/lang/Object")), (.array (.object "java/lang/Object"))]
  resolved := Array.replicate 509 none
  statics := some 0 }

def pool13 : Array CpInfo := pool [(3, .methodref 4 5), (0, .class_ 6), (0, .nameAndType 7 8), (0, u "java/lang/Object"), (0, u "<init>"), (0, u "()V"), (0, .class_ 10), (0, u "java/util/HashMap"), (0, .methodref 9 5), (0, .fieldref 13 14), (0, .class_ 15), (0, .nameAndType 16 17), (0, u "com/example/predicate/predicate/engine/FoldedTransactions"), (0, u "tables"), (0, u "Ljava/util/Map;"), (0, .class_ 19), (0, u "java/util/ArrayDeque"), (0, .methodref 18 5), (0, .fieldref 13 22), (0, .nameAndType 23 24), (0, u "pivots"), (0, u "Ljava/util/Deque;"), (0, .interfaceMethodref 26 27), (0, .class_ 28), (0, .nameAndType 29 30), (0, u "java/util/List"), (0, u "iterator"), (0, u "()Ljava/util/Iterator;"), (0, .interfaceMethodref 32 33), (0, .class_ 34), (0, .nameAndType 35 36), (0, u "java/util/Iterator"), (0, u "hasNext"), (0, u "()Z"), (15, .class_ 54), (1, u "java/util/Map"), (2, .class_ 58), (0, u "com/example/predicate/predicate/engine/FoldedTransactions$Folded"), (3, u "J"), (0, .methodref 64 65), (0, .class_ 66), (0, .nameAndType 67 68), (0, u "java/lang/Math"), (0, u "max"), (0, u "(JJ)J"), (16, .fieldref 13 86), (0, .nameAndType 87 62), (0, u "last"), (0, .long 9223372036854775807), (1, .class_ 91), (0, u "com/example/predicate/predicate/engine/FoldedTransactions$Pivot"), (0, .methodref 90 93), (0, .nameAndType 7 94), (0, u "(Ljava/util/List;J)V"), (0, .interfaceMethodref 96 97), (0, .class_ 98), (0, .nameAndType 99 100), (0, u "java/util/Deque"), (0, u "add"), (0, u "(Ljava/lang/Object;)Z"), (0, .fieldref 13 102), (0, .nameAndType 103 62), (0, u "pivotWrites"), (0, .interfaceMethodref 26 105), (0, .nameAndType 106 107), (0, u "size"), (0, u "()I"), (0, .long 1000), (18, .methodref 13 128), (0, .nameAndType 129 130), (0, u "seenWithin"), (0, u "(J)Z"), (2, u "NONE"), (0, u "Lcom/example/predicate/predicate/engine/FoldedTransactions$Dependencies;"), (5, .class_ 141), (0, u "com/example/predicate/predicate/engine/FoldedTransactions$Dependencies"), (3, .methodref 13 146), (0, .nameAndType 147 36), (0, u "isEmpty"), (0, .interfaceMethodref 52 149), (0, .nameAndType 150 8), (0, u "clear"), (0, .interfaceMethodref 96 149), (1, u "KEPT_PIVOT_WRITES"), (0, u "I"), (2, u "NO_WRITER"), (0, u "NO_READER"), (7, u "(Ljava/util/List;Ljava/util/List;JJJ)V"), (5, u "forgetSeenWithin"), (0, u "(J)V")] 32

def k13c0 : Code := { maxStack := 3, maxLocals := 1, code := prog_49_method_1_code, exceptionTable := #[], attributes := #[] }
def k13m0 : Method := { name := "<init>", desc := "()V", sig := { parameters := [], returnType := none }, accessFlags := 0, code := some k13c0 }
def k13c1 : Code := { maxStack := 6, maxLocals := 13, code := prog_49_method_2_code, exceptionTable := #[], attributes := #[] }
def k13m1 : Method := { name := "add", desc := "(Ljava/util/List;Ljava/util/List;JJJ)V", sig := { parameters := [(.object "java/util/List"), (.object "java/util/List"), .long, .long, .long], returnType := none }, accessFlags := 0, code := some k13c1 }
def k13c2 : Code := { maxStack := 4, maxLocals := 3, code := prog_49_method_4_code, exceptionTable := #[], attributes := #[] }
def k13m2 : Method := { name := "seenWithin", desc := "(J)Z", sig := { parameters := [.long], returnType := some .boolean }, accessFlags := 0, code := some k13c2 }
def k13c3 : Code := { maxStack := 4, maxLocals := 1, code := prog_49_method_5_code, exceptionTable := #[], attributes := #[] }
def k13m3 : Method := { name := "isEmpty", desc := "()Z", sig := { parameters := [], returnType := some .boolean }, accessFlags := 0, code := some k13c3 }
def k13c4 : Code := { maxStack := 3, maxLocals := 3, code := prog_49_method_6_code, exceptionTable := #[], attributes := #[] }
def k13m4 : Method := { name := "forgetSeenWithin", desc := "(J)V", sig := { parameters := [.long], returnType := none }, accessFlags := 0, code := some k13c4 }
/-- com/example/predicate/predicate/engine/FoldedTransactions -/
def k13 : Class := { plain "com/example/predicate/predicate/engine/FoldedTransactions" (some 0) with
  accessFlags := 32
  interfaces := #[]
  cf := some (fileOf pool13 13 #[.nestMembers #[57, 90, 140]] #[{ accessFlags := 0, nameIndex := 7, descriptorIndex := 8, attributes := #[] }, { accessFlags := 0, nameIndex := 99, descriptorIndex := 166, attributes := #[] }, { accessFlags := 0, nameIndex := 129, descriptorIndex := 130, attributes := #[] }, { accessFlags := 0, nameIndex := 147, descriptorIndex := 36, attributes := #[] }, { accessFlags := 0, nameIndex := 172, descriptorIndex := 173, attributes := #[] }] 32 4 #[] #[{ accessFlags := 24, nameIndex := 153, descriptorIndex := 154, attributes := #[] }, { accessFlags := 24, nameIndex := 157, descriptorIndex := 62, attributes := #[] }, { accessFlags := 24, nameIndex := 158, descriptorIndex := 62, attributes := #[] }, { accessFlags := 24, nameIndex := 133, descriptorIndex := 134, attributes := #[] }, { accessFlags := 18, nameIndex := 16, descriptorIndex := 17, attributes := #[] }, { accessFlags := 18, nameIndex := 23, descriptorIndex := 24, attributes := #[] }, { accessFlags := 2, nameIndex := 103, descriptorIndex := 62, attributes := #[] }, { accessFlags := 66, nameIndex := 87, descriptorIndex := 62, attributes := #[] }])
  fields := #[{ name := "KEPT_PIVOT_WRITES", type := .int, accessFlags := 24, slot := 0, constantValue := 0 }, { name := "NO_WRITER", type := .long, accessFlags := 24, slot := 1, constantValue := 0 }, { name := "NO_READER", type := .long, accessFlags := 24, slot := 2, constantValue := 0 }, { name := "NONE", type := (.object "com/example/predicate/predicate/engine/FoldedTransactions$Dependencies"), accessFlags := 24, slot := 3, constantValue := 0 }, { name := "tables", type := (.object "java/util/Map"), accessFlags := 18, slot := 0, constantValue := 0 }, { name := "pivots", type := (.object "java/util/Deque"), accessFlags := 18, slot := 1, constantValue := 0 }, { name := "pivotWrites", type := .long, accessFlags := 2, slot := 2, constantValue := 0 }, { name := "last", type := .long, accessFlags := 66, slot := 3, constantValue := 0 }]
  methods := #[k13m0, k13m1, k13m2, k13m3, k13m4]
  instanceTypes := #[(.object "java/util/Map"), (.object "java/util/Deque"), .long, .long]
  staticTypes := #[.int, .long, .long, (.object "com/example/predicate/predicate/engine/FoldedTransactions$Dependencies")]
  resolved := ⟨List.replicate 90 none ++ [some (.cls 23), none, some (.method ⟨23, 0⟩)] ++ List.replicate 113 none⟩
  statics := none }

def pool14 : Array CpInfo := pool [(2, .class_ 4), (1, u "java/util/Map"), (31, .class_ 37), (0, u "java/util/Map$Entry"), (55, .class_ 94), (0, u "java/lang/Object"), (34, u "clear"), (0, u "()V")] 132

def k14m0 : Method := { name := "clear", desc := "()V", sig := { parameters := [], returnType := none }, accessFlags := 1025, code := none }
/-- java/util/Map -/
def k14 : Class := { plain "java/util/Map" (some 0) with
  accessFlags := 1537
  interfaces := #[]
  cf := some (fileOf pool14 2 #[.nestMembers #[36]] #[{ accessFlags := 1025, nameIndex := 129, descriptorIndex := 130, attributes := #[] }] 1537 93 #[] #[])
  fields := #[]
  methods := #[k14m0]
  instanceTypes := #[]
  staticTypes := #[]
  resolved := Array.replicate 263 none
  statics := none }

def pool15 : Array CpInfo := pool [(1, .methodref 2 3), (0, .class_ 4), (0, .nameAndType 5 6), (0, u "java/lang/Object"), (0, u "<init>"), (0, u "()V"), (1, .class_ 10), (1, u "java/util/AbstractMap"), (42, .class_ 54), (0, u "java/util/Map"), (9, u "keySet"), (0, u "Ljava/util/Set;"), (0, .class_ 67), (0, u "java/util/AbstractMap$1"), (5, u "values"), (0, u "Ljava/util/Collection;"), (0, .class_ 76), (0, u "java/util/AbstractMap$2"), (104, .class_ 182), (0, u "java/util/AbstractMap$ViewCollection"), (0, .class_ 184), (0, u "java/util/AbstractMap$SimpleImmutableEntry"), (0, .class_ 186), (0, u "java/util/AbstractMap$SimpleEntry"), (0, .class_ 188), (0, u "java/util/AbstractMap$2$1"), (0, .class_ 190), (0, u "java/util/AbstractMap$1$1")] 5

def k15c0 : Code := { maxStack := 1, maxLocals := 1, code := jdk_71_method_1_code, exceptionTable := #[], attributes := #[] }
def k15m0 : Method := { name := "<init>", desc := "()V", sig := { parameters := [], returnType := none }, accessFlags := 4, code := some k15c0 }
/-- java/util/AbstractMap -/
def k15 : Class := { plain "java/util/AbstractMap" (some 0) with
  accessFlags := 1057
  interfaces := #[14]
  cf := some (fileOf pool15 8 #[.nestMembers #[181, 183, 185, 75, 187, 66, 189]] #[{ accessFlags := 4, nameIndex := 5, descriptorIndex := 6, attributes := #[] }] 1057 2 #[53] #[{ accessFlags := 128, nameIndex := 64, descriptorIndex := 65, attributes := #[] }, { accessFlags := 128, nameIndex := 73, descriptorIndex := 74, attributes := #[] }])
  fields := #[{ name := "keySet", type := (.object "java/util/Set"), accessFlags := 128, slot := 0, constantValue := 0 }, { name := "values", type := (.object "java/util/Collection"), accessFlags := 128, slot := 1, constantValue := 0 }]
  methods := #[k15m0]
  instanceTypes := #[(.object "java/util/Set"), (.object "java/util/Collection")]
  staticTypes := #[]
  resolved := Array.replicate 196 none
  statics := none }

def pool16 : Array CpInfo := pool [(40, .class_ 41), (0, u "java/util/HashMap"), (1, .methodref 44 45), (0, .class_ 46), (0, .nameAndType 47 48), (0, u "java/util/AbstractMap"), (0, u "<init>"), (0, u "()V"), (32, .fieldref 40 82), (0, .nameAndType 83 84), (0, u "loadFactor"), (0, u "F"), (5, u "threshold"), (0, u "I"), (0, .float 1061158912), (8, .class_ 103), (1, u "java/util/Map"), (0, u "size"), (0, .fieldref 40 106), (0, .nameAndType 107 108), (0, u "table"), (0, u "[Ljava/util/HashMap$Node;"), (14, u "entrySet"), (39, .class_ 165), (1, u "java/util/HashMap$Node"), (14, .class_ 181), (0, u "java/util/HashMap$TreeNode"), (20, .fieldref 40 203), (0, .nameAndType 204 91), (0, u "modCount"), (37, u "Ljava/util/Set;"), (0, .class_ 244), (0, u "java/util/HashMap$KeySet"), (18, .class_ 264), (0, u "java/util/HashMap$Values"), (3, .class_ 269), (0, u "java/util/HashMap$EntrySet"), (76, .class_ 348), (1, u "java/util/HashMap$UnsafeHolder"), (43, .class_ 393), (0, u "java/lang/Cloneable"), (0, .class_ 395), (0, u "java/io/Serializable"), (0, u "serialVersionUID"), (0, u "J"), (3, u "DEFAULT_INITIAL_CAPACITY"), (1, u "MAXIMUM_CAPACITY"), (0, u "DEFAULT_LOAD_FACTOR"), (0, u "TREEIFY_THRESHOLD"), (1, u "UNTREEIFY_THRESHOLD"), (1, u "MIN_TREEIFY_CAPACITY"), (92, u "clear"), (93, .class_ 597), (0, u "java/util/HashMap$EntrySpliterator"), (0, .class_ 599), (0, u "java/util/HashMap$ValueSpliterator"), (0, .class_ 601), (0, u "java/util/HashMap$KeySpliterator"), (0, .class_ 603), (0, u "java/util/HashMap$HashMapSpliterator"), (0, .class_ 605), (0, u "java/util/HashMap$EntryIterator"), (0, .class_ 607), (0, u "java/util/HashMap$ValueIterator"), (0, .class_ 609), (0, u "java/util/HashMap$KeyIterator"), (0, .class_ 611), (0, u "java/util/HashMap$HashIterator")] 17

def k16c0 : Code := { maxStack := 2, maxLocals := 1, code := jdk_69_method_7_code, exceptionTable := #[], attributes := #[] }
def k16m0 : Method := { name := "<init>", desc := "()V", sig := { parameters := [], returnType := none }, accessFlags := 1, code := some k16c0 }
def k16c1 : Code := { maxStack := 3, maxLocals := 3, code := jdk_69_method_22_code, exceptionTable := #[], attributes := #[] }
def k16m1 : Method := { name := "clear", desc := "()V", sig := { parameters := [], returnType := none }, accessFlags := 1, code := some k16c1 }
/-- java/util/HashMap -/
def k16 : Class := { plain "java/util/HashMap" (some 15) with
  accessFlags := 33
  interfaces := #[14, 10, 11]
  cf := some (fileOf pool16 40 #[.nestMembers #[180, 596, 598, 600, 602, 604, 606, 608, 610, 346, 268, 263, 243, 163]] #[{ accessFlags := 1, nameIndex := 47, descriptorIndex := 48, attributes := #[] }, { accessFlags := 1, nameIndex := 502, descriptorIndex := 48, attributes := #[] }] 33 44 #[101, 392, 394] #[{ accessFlags := 26, nameIndex := 396, descriptorIndex := 397, attributes := #[] }, { accessFlags := 24, nameIndex := 401, descriptorIndex := 91, attributes := #[] }, { accessFlags := 24, nameIndex := 403, descriptorIndex := 91, attributes := #[] }, { accessFlags := 24, nameIndex := 404, descriptorIndex := 84, attributes := #[] }, { accessFlags := 24, nameIndex := 405, descriptorIndex := 91, attributes := #[] }, { accessFlags := 24, nameIndex := 407, descriptorIndex := 91, attributes := #[] }, { accessFlags := 24, nameIndex := 409, descriptorIndex := 91, attributes := #[] }, { accessFlags := 128, nameIndex := 107, descriptorIndex := 108, attributes := #[] }, { accessFlags := 128, nameIndex := 123, descriptorIndex := 242, attributes := #[] }, { accessFlags := 128, nameIndex := 104, descriptorIndex := 91, attributes := #[] }, { accessFlags := 128, nameIndex := 204, descriptorIndex := 91, attributes := #[] }, { accessFlags := 0, nameIndex := 90, descriptorIndex := 91, attributes := #[] }, { accessFlags := 16, nameIndex := 83, descriptorIndex := 84, attributes := #[] }])
  fields := #[{ name := "serialVersionUID", type := .long, accessFlags := 26, slot := 0, constantValue := 0 }, { name := "DEFAULT_INITIAL_CAPACITY", type := .int, accessFlags := 24, slot := 1, constantValue := 0 }, { name := "MAXIMUM_CAPACITY", type := .int, accessFlags := 24, slot := 2, constantValue := 0 }, { name := "DEFAULT_LOAD_FACTOR", type := .float, accessFlags := 24, slot := 3, constantValue := 0 }, { name := "TREEIFY_THRESHOLD", type := .int, accessFlags := 24, slot := 4, constantValue := 0 }, { name := "UNTREEIFY_THRESHOLD", type := .int, accessFlags := 24, slot := 5, constantValue := 0 }, { name := "MIN_TREEIFY_CAPACITY", type := .int, accessFlags := 24, slot := 6, constantValue := 0 }, { name := "table", type := (.array (.object "java/util/HashMap$Node")), accessFlags := 128, slot := 2, constantValue := 0 }, { name := "entrySet", type := (.object "java/util/Set"), accessFlags := 128, slot := 3, constantValue := 0 }, { name := "size", type := .int, accessFlags := 128, slot := 4, constantValue := 0 }, { name := "modCount", type := .int, accessFlags := 128, slot := 5, constantValue := 0 }, { name := "threshold", type := .int, accessFlags := 0, slot := 6, constantValue := 0 }, { name := "loadFactor", type := .float, accessFlags := 16, slot := 7, constantValue := 0 }]
  methods := #[k16m0, k16m1]
  instanceTypes := #[(.object "java/util/Set"), (.object "java/util/Collection"), (.array (.object "java/util/HashMap$Node")), (.object "java/util/Set"), .int, .int, .int, .float]
  staticTypes := #[.long, .int, .int, .float, .int, .int, .int]
  resolved := Array.replicate 629 none
  statics := none }

def pool17 : Array CpInfo := pool [(1, .class_ 2), (0, u "java/util/Queue"), (0, .class_ 4), (0, u "java/lang/Object"), (0, .class_ 6), (0, u "java/util/Collection")] 14

/-- java/util/Queue -/
def k17 : Class := { plain "java/util/Queue" (some 0) with
  accessFlags := 1537
  interfaces := #[4]
  cf := some (fileOf pool17 1 #[] #[] 1537 3 #[5] #[])
  fields := #[]
  methods := #[]
  instanceTypes := #[]
  staticTypes := #[]
  resolved := Array.replicate 21 none
  statics := none }

def pool18 : Array CpInfo := pool [(8, .class_ 10), (1, u "java/util/Deque"), (2, .class_ 14), (0, u "java/lang/Object"), (0, .class_ 16), (0, u "java/util/Queue"), (0, .class_ 18), (0, u "java/util/SequencedCollection"), (6, u "(Ljava/lang/Object;)Z"), (14, u "add")] 29

def k18m0 : Method := { name := "add", desc := "(Ljava/lang/Object;)Z", sig := { parameters := [(.object "java/lang/Object")], returnType := some .boolean }, accessFlags := 1025, code := none }
/-- java/util/Deque -/
def k18 : Class := { plain "java/util/Deque" (some 0) with
  accessFlags := 1537
  interfaces := #[17, 6]
  cf := some (fileOf pool18 8 #[] #[{ accessFlags := 1025, nameIndex := 40, descriptorIndex := 25, attributes := #[] }] 1537 13 #[15, 17] #[])
  fields := #[]
  methods := #[k18m0]
  instanceTypes := #[]
  staticTypes := #[]
  resolved := Array.replicate 70 none
  statics := none }

def pool19 : Array CpInfo := pool [(3, .fieldref 4 5), (0, .class_ 6), (0, .nameAndType 7 8), (0, u "java/util/ArrayDeque"), (0, u "elements"), (0, u "[Ljava/lang/Object;"), (4, u "(II)I"), (6, .fieldref 4 21), (0, .nameAndType 22 23), (0, u "tail"), (0, u "I"), (0, .fieldref 4 25), (0, .nameAndType 26 23), (0, u "head"), (12, u "<init>"), (2, .methodref 43 44), (0, .class_ 45), (0, .nameAndType 39 46), (0, u "java/util/AbstractCollection"), (0, u "()V"), (0, .class_ 48), (0, u "java/lang/Object"), (25, .methodref 4 75), (0, .nameAndType 76 13), (0, u "inc"), (12, u "(Ljava/lang/Object;)V"), (0, .methodref 4 91), (0, .nameAndType 92 89), (0, u "addLast"), (17, u "(Ljava/lang/Object;)Z"), (20, .class_ 132), (0, u "java/util/ArrayDeque$DeqIterator"), (3, .class_ 137), (0, u "java/util/ArrayDeque$DescendingIterator"), (1, .class_ 140), (0, u "java/util/ArrayDeque$DeqSpliterator"), (40, .methodref 4 182), (0, .nameAndType 183 184), (0, u "circularClear"), (0, u "([Ljava/lang/Object;II)V"), (93, .class_ 279), (0, u "java/util/Deque"), (0, .class_ 281), (0, u "java/lang/Cloneable"), (0, .class_ 283), (0, u "java/io/Serializable"), (0, u "MAX_ARRAY_SIZE"), (1, u "serialVersionUID"), (0, u "J"), (48, u "add"), (41, u "clear")] 59

def k19c0 : Code := { maxStack := 2, maxLocals := 1, code := jdk_21_method_3_code, exceptionTable := #[], attributes := #[] }
def k19m0 : Method := { name := "<init>", desc := "()V", sig := { parameters := [], returnType := none }, accessFlags := 1, code := some k19c0 }
def k19c1 : Code := { maxStack := 2, maxLocals := 2, code := jdk_21_method_6_code, exceptionTable := #[], attributes := #[] }
def k19m1 : Method := { name := "inc", desc := "(II)I", sig := { parameters := [.int, .int], returnType := some .int }, accessFlags := 24, code := some k19c1 }
def k19c2 : Code := { maxStack := 4, maxLocals := 3, code := jdk_21_method_13_code, exceptionTable := #[], attributes := #[] }
def k19m2 : Method := { name := "addLast", desc := "(Ljava/lang/Object;)V", sig := { parameters := [(.object "java/lang/Object")], returnType := none }, accessFlags := 1, code := some k19c2 }
def k19c3 : Code := { maxStack := 2, maxLocals := 2, code := jdk_21_method_28_code, exceptionTable := #[], attributes := #[] }
def k19m3 : Method := { name := "add", desc := "(Ljava/lang/Object;)Z", sig := { parameters := [(.object "java/lang/Object")], returnType := some .boolean }, accessFlags := 1, code := some k19c3 }
def k19c4 : Code := { maxStack := 4, maxLocals := 1, code := jdk_21_method_53_code, exceptionTable := #[], attributes := #[] }
def k19m4 : Method := { name := "clear", desc := "()V", sig := { parameters := [], returnType := none }, accessFlags := 1, code := some k19c4 }
def k19c5 : Code := { maxStack := 3, maxLocals := 4, code := jdk_21_method_54_code, exceptionTable := #[], attributes := #[] }
def k19m5 : Method := { name := "circularClear", desc := "([Ljava/lang/Object;II)V", sig := { parameters := [(.array (.object "java/lang/Object")), .int, .int], returnType := none }, accessFlags := 10, code := some k19c5 }
/-- java/util/ArrayDeque -/
def k19 : Class := { plain "java/util/ArrayDeque" (some 5) with
  accessFlags := 33
  interfaces := #[18, 10, 11]
  cf := some (fileOf pool19 4 #[.nestMembers #[139, 136, 131]] #[{ accessFlags := 1, nameIndex := 39, descriptorIndex := 46, attributes := #[] }, { accessFlags := 24, nameIndex := 76, descriptorIndex := 13, attributes := #[] }, { accessFlags := 1, nameIndex := 92, descriptorIndex := 89, attributes := #[] }, { accessFlags := 1, nameIndex := 336, descriptorIndex := 110, attributes := #[] }, { accessFlags := 1, nameIndex := 378, descriptorIndex := 46, attributes := #[] }, { accessFlags := 10, nameIndex := 183, descriptorIndex := 184, attributes := #[] }] 33 43 #[278, 280, 282] #[{ accessFlags := 128, nameIndex := 7, descriptorIndex := 8, attributes := #[] }, { accessFlags := 128, nameIndex := 26, descriptorIndex := 23, attributes := #[] }, { accessFlags := 128, nameIndex := 22, descriptorIndex := 23, attributes := #[] }, { accessFlags := 26, nameIndex := 284, descriptorIndex := 23, attributes := #[] }, { accessFlags := 26, nameIndex := 286, descriptorIndex := 287, attributes := #[] }])
  fields := #[{ name := "elements", type := (.array (.object "java/lang/Object")), accessFlags := 128, slot := 0, constantValue := 0 }, { name := "head", type := .int, accessFlags := 128, slot := 1, constantValue := 0 }, { name := "tail", type := .int, accessFlags := 128, slot := 2, constantValue := 0 }, { name := "MAX_ARRAY_SIZE", type := .int, accessFlags := 26, slot := 0, constantValue := 0 }, { name := "serialVersionUID", type := .long, accessFlags := 26, slot := 1, constantValue := 0 }]
  methods := #[k19m0, k19m1, k19m2, k19m3, k19m4, k19m5]
  instanceTypes := #[(.array (.object "java/lang/Object")), .int, .int]
  staticTypes := #[.int, .long]
  resolved := Array.replicate 438 none
  statics := none }

def pool20 : Array CpInfo := pool [(16, .class_ 18), (1, u "java/util/Iterator"), (0, u "hasNext"), (0, u "()Z"), (10, .class_ 32), (0, u "java/lang/Object")] 20

def k20m0 : Method := { name := "hasNext", desc := "()Z", sig := { parameters := [], returnType := some .boolean }, accessFlags := 1025, code := none }
/-- java/util/Iterator -/
def k20 : Class := { plain "java/util/Iterator" (some 0) with
  accessFlags := 1537
  interfaces := #[]
  cf := some (fileOf pool20 16 #[] #[{ accessFlags := 1025, nameIndex := 19, descriptorIndex := 20, attributes := #[] }] 1537 31 #[] #[])
  fields := #[]
  methods := #[k20m0]
  instanceTypes := #[]
  staticTypes := #[]
  resolved := Array.replicate 53 none
  statics := none }

def pool21 : Array CpInfo := pool [(1, .fieldref 2 3), (0, .class_ 4), (0, .nameAndType 5 6), (0, u "java/util/ArrayList$Itr"), (0, u "this$0"), (0, u "Ljava/util/ArrayList;"), (0, .methodref 8 9), (0, .class_ 10), (0, .nameAndType 11 12), (0, u "java/lang/Object"), (0, u "<init>"), (0, u "()V"), (0, .fieldref 2 14), (0, .nameAndType 15 16), (0, u "lastRet"), (0, u "I"), (0, .fieldref 18 19), (0, .class_ 20), (0, .nameAndType 21 16), (0, u "java/util/ArrayList"), (0, u "modCount"), (0, .fieldref 2 23), (0, .nameAndType 24 16), (0, u "expectedModCount"), (0, .fieldref 2 26), (0, .nameAndType 27 16), (0, u "cursor"), (0, .fieldref 18 29), (0, .nameAndType 30 16), (0, u "size"), (38, .class_ 70), (0, u "java/util/Iterator"), (0, u "(Ljava/util/ArrayList;)V"), (8, u "hasNext"), (0, u "()Z")] 22

def k21c0 : Code := { maxStack := 2, maxLocals := 2, code := jdk_49_method_1_code, exceptionTable := #[], attributes := #[] }
def k21m0 : Method := { name := "<init>", desc := "(Ljava/util/ArrayList;)V", sig := { parameters := [(.object "java/util/ArrayList")], returnType := none }, accessFlags := 0, code := some k21c0 }
def k21c1 : Code := { maxStack := 2, maxLocals := 1, code := jdk_49_method_2_code, exceptionTable := #[], attributes := #[] }
def k21m1 : Method := { name := "hasNext", desc := "()Z", sig := { parameters := [], returnType := some .boolean }, accessFlags := 1, code := some k21c1 }
/-- java/util/ArrayList$Itr -/
def k21 : Class := { plain "java/util/ArrayList$Itr" (some 0) with
  accessFlags := 32
  interfaces := #[20]
  cf := some (fileOf pool21 2 #[.nestHost 18] #[{ accessFlags := 0, nameIndex := 11, descriptorIndex := 71, attributes := #[] }, { accessFlags := 1, nameIndex := 80, descriptorIndex := 81, attributes := #[] }] 32 8 #[69] #[{ accessFlags := 0, nameIndex := 27, descriptorIndex := 16, attributes := #[] }, { accessFlags := 0, nameIndex := 15, descriptorIndex := 16, attributes := #[] }, { accessFlags := 0, nameIndex := 24, descriptorIndex := 16, attributes := #[] }, { accessFlags := 4112, nameIndex := 5, descriptorIndex := 6, attributes := #[] }])
  fields := #[{ name := "cursor", type := .int, accessFlags := 0, slot := 0, constantValue := 0 }, { name := "lastRet", type := .int, accessFlags := 0, slot := 1, constantValue := 0 }, { name := "expectedModCount", type := .int, accessFlags := 0, slot := 2, constantValue := 0 }, { name := "this$0", type := (.object "java/util/ArrayList"), accessFlags := 4112, slot := 3, constantValue := 0 }]
  methods := #[k21m0, k21m1]
  instanceTypes := #[.int, .int, .int, (.object "java/util/ArrayList")]
  staticTypes := #[]
  resolved := Array.replicate 104 none
  statics := none }

def pool22 : Array CpInfo := pool [(1, .methodref 2 3), (0, .class_ 4), (0, .nameAndType 5 6), (0, u "java/lang/Object"), (0, u "<init>"), (0, u "()V"), (0, .class_ 8), (0, u "java/lang/Record")] 13

def k22c0 : Code := { maxStack := 1, maxLocals := 1, code := jdk_30_method_1_code, exceptionTable := #[], attributes := #[] }
def k22m0 : Method := { name := "<init>", desc := "()V", sig := { parameters := [], returnType := none }, accessFlags := 4, code := some k22c0 }
/-- java/lang/Record -/
def k22 : Class := { plain "java/lang/Record" (some 0) with
  accessFlags := 1057
  interfaces := #[]
  cf := some (fileOf pool22 7 #[] #[{ accessFlags := 4, nameIndex := 5, descriptorIndex := 6, attributes := #[] }] 1057 2 #[] #[])
  fields := #[]
  methods := #[k22m0]
  instanceTypes := #[]
  staticTypes := #[]
  resolved := Array.replicate 22 none
  statics := none }

def pool23 : Array CpInfo := pool [(1, .methodref 2 3), (0, .class_ 4), (0, .nameAndType 5 6), (0, u "java/lang/Record"), (0, u "<init>"), (0, u "()V"), (0, .fieldref 8 9), (0, .class_ 10), (0, .nameAndType 11 12), (0, u "com/example/predicate/predicate/engine/FoldedTransactions$Pivot"), (0, u "writes"), (0, u "Ljava/util/List;"), (0, .fieldref 8 14), (0, .nameAndType 15 16), (0, u "pivotOut"), (0, u "J"), (14, u "(Ljava/util/List;J)V"), (13, .class_ 46), (0, u "com/example/predicate/predicate/engine/FoldedTransactions")] 20

def k23c0 : Code := { maxStack := 3, maxLocals := 4, code := prog_52_method_1_code, exceptionTable := #[], attributes := #[] }
def k23m0 : Method := { name := "<init>", desc := "(Ljava/util/List;J)V", sig := { parameters := [(.object "java/util/List"), .long], returnType := none }, accessFlags := 2, code := some k23c0 }
/-- com/example/predicate/predicate/engine/FoldedTransactions$Pivot -/
def k23 : Class := { plain "com/example/predicate/predicate/engine/FoldedTransactions$Pivot" (some 22) with
  accessFlags := 48
  interfaces := #[]
  cf := some (fileOf pool23 8 #[.nestHost 45] #[{ accessFlags := 2, nameIndex := 5, descriptorIndex := 31, attributes := #[] }] 48 2 #[] #[{ accessFlags := 18, nameIndex := 11, descriptorIndex := 12, attributes := #[] }, { accessFlags := 18, nameIndex := 15, descriptorIndex := 16, attributes := #[] }])
  fields := #[{ name := "writes", type := (.object "java/util/List"), accessFlags := 18, slot := 0, constantValue := 0 }, { name := "pivotOut", type := .long, accessFlags := 18, slot := 1, constantValue := 0 }]
  methods := #[k23m0]
  instanceTypes := #[(.object "java/util/List"), .long]
  staticTypes := #[]
  resolved := Array.replicate 67 none
  statics := none }

/-- the primitive byte -/
def k24 : Class := { plain "byte" none with kind := .primitive 'B', accessFlags := 0x411 }
/-- [B -/
def k25 : Class := { plain "[B" (some 0) with kind := .array 24 .byte, interfaces := #[10, 11], accessFlags := 1041 }

/-- the primitive int -/
def k26 : Class := { plain "int" none with kind := .primitive 'I', accessFlags := 0x411 }
/-- [I -/
def k27 : Class := { plain "[I" (some 0) with kind := .array 26 .int, interfaces := #[10, 11], accessFlags := 1041 }

/-- [Ljava/lang/Object; -/
def k28 : Class := { plain "[Ljava/lang/Object;" (some 0) with kind := .array 0 (.object "java/lang/Object"), interfaces := #[10, 11], accessFlags := 1041 }

def heap : Heap := #[{ cls := 12, slots := #[.long 0, .int 0, .ref 1, .ref 2], vm := .statics 12 },
  { cls := 28, slots := #[], vm := .none },
  { cls := 28, slots := #[], vm := .none }]
def classes : Array Class := #[k0, k1, k2, k3, k4, k5, k6, k7, k8, k9, k10, k11, k12, k13, k14, k15, k16, k17, k18, k19, k20, k21, k22, k23, k24, k25, k26, k27, k28]
def interned : List (Array UInt16 × Addr) := []
def slotsUsed : Nat := 4
def theMethod : MethodId := ⟨1, 1⟩
def args0 : Array Value := #[.long 1, .long 2, .long 3, .long 4, .long 5, .int 6]
def aboutOver (below : List Frame) : State where
  vm := { classes := classes, interned := interned.toArray }
  heap := heap
  slotsUsed := slotsUsed
  threads := #[{ frames := .invoking theMethod args0 :: below }]
def below0 : List Frame := [.native { method := ⟨0, 0⟩, args := #[] }]
def about1 : State := aboutOver below0
def p0 : Program := .bare "" "" ""
def e0 : Env := launch0.env 0 0 0
theorem w_frames : about1.frames = Frame.invoking theMethod args0 :: below0 := rfl
set_option maxRecDepth 65536 in
theorem w_args : argsFit about1.vm theMethod args0 = true := by decide +kernel
set_option maxRecDepth 65536 in
theorem w_heap : heapFits about1 = true := by decide +kernel
set_option maxRecDepth 65536 in
theorem w_runnable : about1.curStatus? = some .runnable := by decide +kernel
set_option maxRecDepth 65536 in
theorem w_alone : about1.alone = true := by decide +kernel
set_option maxRecDepth 65536 in
theorem w_named : about1.methodNamed? x = some theMethod := by decide +kernel
set_option maxRecDepth 65536 in
theorem w_hears : about1.hears theMethod below0 = true := by decide +kernel
set_option maxRecDepth 65536 in
theorem w_ripe : about1.ripe theMethod args0 below0 = true := by decide +kernel
theorem w_running : about1.status = .running := rfl
set_option maxRecDepth 65536 in
theorem w_room : about1.hasRoom e0.platform room_1 = true :=
  launch0.hasRoom_least _ room_1 (by decide +kernel) (by decide +kernel) (by decide +kernel) (by decide +kernel) (by decide +kernel) (by decide +kernel)
theorem allAtoms_all (ts : List Jvm.Cond) (a : Array Jvm.Value) (st : Jvm.State) : (allAtoms ts).before a st = ts.all (fun c => c.before a st) := by
  induction ts with
  | nil => rfl
  | cons c t ih =>
    show (Jvm.Cond.and c (allAtoms t)).before a st = _
    rw [Jvm.Cond.before_and, ih, List.all_cons]
def words1 : List Jvm.Cond := Jvm.Cond.code x code maxLocals ret :: tables_1
/-- a 'code' word, met by the world's own term for the bytes: nothing is compared byte by byte -/
theorem code_word {y : MethodName} {bytes : ByteArray} {mx : Nat} {rt : Option FieldType} {a : Array Value} {s : State} {m : MethodId} {meth : Method} {c : Code} (h1 : s.methodNamed? y = some m) (h2 : s.vm.method? m = some meth) (h3 : meth.code = some c) (h4 : c.code = bytes)
    (h5 : (c.maxLocals == mx && c.exceptionTable.isEmpty && decide (c.maxStack ≤ mostOperands) && decide (meth.sig.returnType = rt) && !meth.locks && decide (parseMethodDescriptor y.desc = some meth.sig)) = true) : (Jvm.Cond.code y bytes mx rt).before a s = true := by
  simp only [Bool.and_eq_true, beq_iff_eq, Bool.not_eq_true', decide_eq_true_eq] at h5
  obtain ⟨⟨⟨⟨⟨g1, g2⟩, g3⟩, g4⟩, g5⟩, g6⟩ := h5
  simp [Cond.before, Cond.holds, Cond.value, h1, h2, h3, h4, g1, g2, g3, g4, g5, g6]
def isCode : Jvm.Cond → Bool
  | .code _ _ _ _ => true
  | _ => false
theorem all_split {L : List Jvm.Cond} {P : Jvm.Cond → Bool} (h1 : L.all (fun c => isCode c || P c) = true) (h2 : ∀ c ∈ L.filter isCode, P c = true) : L.all P = true := by
  refine List.all_eq_true.mpr fun c hc => ?_
  have h := List.all_eq_true.mp h1 c hc
  rcases Bool.eq_false_or_eq_true (isCode c) with hi | hi
  · exact h2 c (List.mem_filter.mpr ⟨hc, hi⟩)
  · simpa [hi] using h
set_option maxRecDepth 65536 in
theorem w_c0 : (Jvm.Cond.code x code maxLocals ret).before args0 about1 = true := code_word (m := ⟨1, 1⟩) (meth := k1m1) (c := k1c1) (by decide +kernel) rfl rfl rfl (by decide +kernel)
set_option maxRecDepth 65536 in
theorem w_c1 : (Jvm.Cond.code ({ cls := "java/lang/Math", name := "max", desc := "(JJ)J" } : Jvm.MethodName) jdk_29_method_66_code (4 : Nat) (Option.some Jvm.ClassFile.FieldType.long)).before args0 about1 = true := code_word (m := ⟨2, 1⟩) (meth := k2m1) (c := k2c1) (by decide +kernel) rfl rfl rfl (by decide +kernel)
set_option maxRecDepth 65536 in
theorem w_c2 : (Jvm.Cond.code ({ cls := "java/util/ArrayList", name := "<init>", desc := "()V" } : Jvm.MethodName) jdk_38_method_2_code (1 : Nat) (Option.none : Option Jvm.ClassFile.FieldType)).before args0 about1 = true := code_word (m := ⟨12, 0⟩) (meth := k12m0) (c := k12c0) (by decide +kernel) rfl rfl rfl (by decide +kernel)
set_option maxRecDepth 65536 in
theorem w_c3 : (Jvm.Cond.code ({ cls := "java/util/AbstractList", name := "<init>", desc := "()V" } : Jvm.MethodName) jdk_39_method_1_code (1 : Nat) (Option.none : Option Jvm.ClassFile.FieldType)).before args0 about1 = true := code_word (m := ⟨8, 0⟩) (meth := k8m0) (c := k8c0) (by decide +kernel) rfl rfl rfl (by decide +kernel)
set_option maxRecDepth 65536 in
theorem w_c4 : (Jvm.Cond.code ({ cls := "java/util/AbstractCollection", name := "<init>", desc := "()V" } : Jvm.MethodName) jdk_22_method_1_code (1 : Nat) (Option.none : Option Jvm.ClassFile.FieldType)).before args0 about1 = true := code_word (m := ⟨5, 0⟩) (meth := k5m0) (c := k5c0) (by decide +kernel) rfl rfl rfl (by decide +kernel)
set_option maxRecDepth 65536 in
theorem w_c5 : (Jvm.Cond.code ({ cls := "java/lang/Object", name := "<init>", desc := "()V" } : Jvm.MethodName) object_method_1_code (1 : Nat) (Option.none : Option Jvm.ClassFile.FieldType)).before args0 about1 = true := code_word (m := ⟨0, 0⟩) (meth := k0m0) (c := k0c0) (by decide +kernel) rfl rfl rfl (by decide +kernel)
set_option maxRecDepth 65536 in
theorem w_c6 : (Jvm.Cond.code ({ cls := "com/example/predicate/predicate/engine/FoldedTransactions", name := "<init>", desc := "()V" } : Jvm.MethodName) prog_49_method_1_code (1 : Nat) (Option.none : Option Jvm.ClassFile.FieldType)).before args0 about1 = true := code_word (m := ⟨13, 0⟩) (meth := k13m0) (c := k13c0) (by decide +kernel) rfl rfl rfl (by decide +kernel)
set_option maxRecDepth 65536 in
theorem w_c7 : (Jvm.Cond.code ({ cls := "java/util/HashMap", name := "<init>", desc := "()V" } : Jvm.MethodName) jdk_69_method_7_code (1 : Nat) (Option.none : Option Jvm.ClassFile.FieldType)).before args0 about1 = true := code_word (m := ⟨16, 0⟩) (meth := k16m0) (c := k16c0) (by decide +kernel) rfl rfl rfl (by decide +kernel)
set_option maxRecDepth 65536 in
theorem w_c8 : (Jvm.Cond.code ({ cls := "java/util/AbstractMap", name := "<init>", desc := "()V" } : Jvm.MethodName) jdk_71_method_1_code (1 : Nat) (Option.none : Option Jvm.ClassFile.FieldType)).before args0 about1 = true := code_word (m := ⟨15, 0⟩) (meth := k15m0) (c := k15c0) (by decide +kernel) rfl rfl rfl (by decide +kernel)
set_option maxRecDepth 65536 in
theorem w_c9 : (Jvm.Cond.code ({ cls := "java/util/ArrayDeque", name := "<init>", desc := "()V" } : Jvm.MethodName) jdk_21_method_3_code (1 : Nat) (Option.none : Option Jvm.ClassFile.FieldType)).before args0 about1 = true := code_word (m := ⟨19, 0⟩) (meth := k19m0) (c := k19c0) (by decide +kernel) rfl rfl rfl (by decide +kernel)
set_option maxRecDepth 65536 in
theorem w_c10 : (Jvm.Cond.code ({ cls := "com/example/predicate/predicate/engine/FoldedTransactions", name := "isEmpty", desc := "()Z" } : Jvm.MethodName) prog_49_method_5_code (1 : Nat) (Option.some Jvm.ClassFile.FieldType.boolean)).before args0 about1 = true := code_word (m := ⟨13, 3⟩) (meth := k13m3) (c := k13c3) (by decide +kernel) rfl rfl rfl (by decide +kernel)
set_option maxRecDepth 65536 in
theorem w_c11 : (Jvm.Cond.code ({ cls := "com/example/predicate/predicate/engine/FoldedTransactions", name := "add", desc := "(Ljava/util/List;Ljava/util/List;JJJ)V" } : Jvm.MethodName) prog_49_method_2_code (13 : Nat) (Option.none : Option Jvm.ClassFile.FieldType)).before args0 about1 = true := code_word (m := ⟨13, 1⟩) (meth := k13m1) (c := k13c1) (by decide +kernel) rfl rfl rfl (by decide +kernel)
set_option maxRecDepth 65536 in
theorem w_c12 : (Jvm.Cond.code ({ cls := "java/util/ArrayList", name := "iterator", desc := "()Ljava/util/Iterator;" } : Jvm.MethodName) jdk_38_method_55_code (1 : Nat) (Option.some (Jvm.ClassFile.FieldType.object "java/util/Iterator"))).before args0 about1 = true := code_word (m := ⟨12, 2⟩) (meth := k12m2) (c := k12c2) (by decide +kernel) rfl rfl rfl (by decide +kernel)
set_option maxRecDepth 65536 in
theorem w_c13 : (Jvm.Cond.code ({ cls := "java/util/ArrayList$Itr", name := "<init>", desc := "(Ljava/util/ArrayList;)V" } : Jvm.MethodName) jdk_49_method_1_code (2 : Nat) (Option.none : Option Jvm.ClassFile.FieldType)).before args0 about1 = true := code_word (m := ⟨21, 0⟩) (meth := k21m0) (c := k21c0) (by decide +kernel) rfl rfl rfl (by decide +kernel)
set_option maxRecDepth 65536 in
theorem w_c14 : (Jvm.Cond.code ({ cls := "java/util/ArrayList$Itr", name := "hasNext", desc := "()Z" } : Jvm.MethodName) jdk_49_method_2_code (1 : Nat) (Option.some Jvm.ClassFile.FieldType.boolean)).before args0 about1 = true := code_word (m := ⟨21, 1⟩) (meth := k21m1) (c := k21c1) (by decide +kernel) rfl rfl rfl (by decide +kernel)
set_option maxRecDepth 65536 in
theorem w_c15 : (Jvm.Cond.code ({ cls := "com/example/predicate/predicate/engine/FoldedTransactions$Pivot", name := "<init>", desc := "(Ljava/util/List;J)V" } : Jvm.MethodName) prog_52_method_1_code (4 : Nat) (Option.none : Option Jvm.ClassFile.FieldType)).before args0 about1 = true := code_word (m := ⟨23, 0⟩) (meth := k23m0) (c := k23c0) (by decide +kernel) rfl rfl rfl (by decide +kernel)
set_option maxRecDepth 65536 in
theorem w_c16 : (Jvm.Cond.code ({ cls := "java/lang/Record", name := "<init>", desc := "()V" } : Jvm.MethodName) jdk_30_method_1_code (1 : Nat) (Option.none : Option Jvm.ClassFile.FieldType)).before args0 about1 = true := code_word (m := ⟨22, 0⟩) (meth := k22m0) (c := k22c0) (by decide +kernel) rfl rfl rfl (by decide +kernel)
set_option maxRecDepth 65536 in
theorem w_c17 : (Jvm.Cond.code ({ cls := "java/util/ArrayDeque", name := "add", desc := "(Ljava/lang/Object;)Z" } : Jvm.MethodName) jdk_21_method_28_code (2 : Nat) (Option.some Jvm.ClassFile.FieldType.boolean)).before args0 about1 = true := code_word (m := ⟨19, 3⟩) (meth := k19m3) (c := k19c3) (by decide +kernel) rfl rfl rfl (by decide +kernel)
set_option maxRecDepth 65536 in
theorem w_c18 : (Jvm.Cond.code ({ cls := "java/util/ArrayDeque", name := "addLast", desc := "(Ljava/lang/Object;)V" } : Jvm.MethodName) jdk_21_method_13_code (3 : Nat) (Option.none : Option Jvm.ClassFile.FieldType)).before args0 about1 = true := code_word (m := ⟨19, 2⟩) (meth := k19m2) (c := k19c2) (by decide +kernel) rfl rfl rfl (by decide +kernel)
set_option maxRecDepth 65536 in
theorem w_c19 : (Jvm.Cond.code ({ cls := "java/util/ArrayDeque", name := "inc", desc := "(II)I" } : Jvm.MethodName) jdk_21_method_6_code (2 : Nat) (Option.some Jvm.ClassFile.FieldType.int)).before args0 about1 = true := code_word (m := ⟨19, 1⟩) (meth := k19m1) (c := k19c1) (by decide +kernel) rfl rfl rfl (by decide +kernel)
set_option maxRecDepth 65536 in
theorem w_c20 : (Jvm.Cond.code ({ cls := "java/util/ArrayList", name := "size", desc := "()I" } : Jvm.MethodName) jdk_38_method_8_code (1 : Nat) (Option.some Jvm.ClassFile.FieldType.int)).before args0 about1 = true := code_word (m := ⟨12, 1⟩) (meth := k12m1) (c := k12c1) (by decide +kernel) rfl rfl rfl (by decide +kernel)
set_option maxRecDepth 65536 in
theorem w_c21 : (Jvm.Cond.code ({ cls := "com/example/predicate/predicate/engine/FoldedTransactions", name := "forgetSeenWithin", desc := "(J)V" } : Jvm.MethodName) prog_49_method_6_code (3 : Nat) (Option.none : Option Jvm.ClassFile.FieldType)).before args0 about1 = true := code_word (m := ⟨13, 4⟩) (meth := k13m4) (c := k13c4) (by decide +kernel) rfl rfl rfl (by decide +kernel)
set_option maxRecDepth 65536 in
theorem w_c22 : (Jvm.Cond.code ({ cls := "com/example/predicate/predicate/engine/FoldedTransactions", name := "seenWithin", desc := "(J)Z" } : Jvm.MethodName) prog_49_method_4_code (3 : Nat) (Option.some Jvm.ClassFile.FieldType.boolean)).before args0 about1 = true := code_word (m := ⟨13, 2⟩) (meth := k13m2) (c := k13c2) (by decide +kernel) rfl rfl rfl (by decide +kernel)
set_option maxRecDepth 65536 in
theorem w_c23 : (Jvm.Cond.code ({ cls := "java/util/HashMap", name := "clear", desc := "()V" } : Jvm.MethodName) jdk_69_method_22_code (3 : Nat) (Option.none : Option Jvm.ClassFile.FieldType)).before args0 about1 = true := code_word (m := ⟨16, 1⟩) (meth := k16m1) (c := k16c1) (by decide +kernel) rfl rfl rfl (by decide +kernel)
set_option maxRecDepth 65536 in
theorem w_c24 : (Jvm.Cond.code ({ cls := "java/util/ArrayDeque", name := "clear", desc := "()V" } : Jvm.MethodName) jdk_21_method_53_code (1 : Nat) (Option.none : Option Jvm.ClassFile.FieldType)).before args0 about1 = true := code_word (m := ⟨19, 4⟩) (meth := k19m4) (c := k19c4) (by decide +kernel) rfl rfl rfl (by decide +kernel)
set_option maxRecDepth 65536 in
theorem w_c25 : (Jvm.Cond.code ({ cls := "java/util/ArrayDeque", name := "circularClear", desc := "([Ljava/lang/Object;II)V" } : Jvm.MethodName) jdk_21_method_54_code (4 : Nat) (Option.none : Option Jvm.ClassFile.FieldType)).before args0 about1 = true := code_word (m := ⟨19, 5⟩) (meth := k19m5) (c := k19c5) (by decide +kernel) rfl rfl rfl (by decide +kernel)
def codes1 : List Jvm.Cond := [Jvm.Cond.code x code maxLocals ret, Jvm.Cond.code ({ cls := "java/lang/Math", name := "max", desc := "(JJ)J" } : Jvm.MethodName) jdk_29_method_66_code (4 : Nat) (Option.some Jvm.ClassFile.FieldType.long), Jvm.Cond.code ({ cls := "java/util/ArrayList", name := "<init>", desc := "()V" } : Jvm.MethodName) jdk_38_method_2_code (1 : Nat) (Option.none : Option Jvm.ClassFile.FieldType), Jvm.Cond.code ({ cls := "java/util/AbstractList", name := "<init>", desc := "()V" } : Jvm.MethodName) jdk_39_method_1_code (1 : Nat) (Option.none : Option Jvm.ClassFile.FieldType), Jvm.Cond.code ({ cls := "java/util/AbstractCollection", name := "<init>", desc := "()V" } : Jvm.MethodName) jdk_22_method_1_code (1 : Nat) (Option.none : Option Jvm.ClassFile.FieldType), Jvm.Cond.code ({ cls := "java/lang/Object", name := "<init>", desc := "()V" } : Jvm.MethodName) object_method_1_code (1 : Nat) (Option.none : Option Jvm.ClassFile.FieldType), Jvm.Cond.code ({ cls := "com/example/predicate/predicate/engine/FoldedTransactions", name := "<init>", desc := "()V" } : Jvm.MethodName) prog_49_method_1_code (1 : Nat) (Option.none : Option Jvm.ClassFile.FieldType), Jvm.Cond.code ({ cls := "java/util/HashMap", name := "<init>", desc := "()V" } : Jvm.MethodName) jdk_69_method_7_code (1 : Nat) (Option.none : Option Jvm.ClassFile.FieldType), Jvm.Cond.code ({ cls := "java/util/AbstractMap", name := "<init>", desc := "()V" } : Jvm.MethodName) jdk_71_method_1_code (1 : Nat) (Option.none : Option Jvm.ClassFile.FieldType), Jvm.Cond.code ({ cls := "java/util/ArrayDeque", name := "<init>", desc := "()V" } : Jvm.MethodName) jdk_21_method_3_code (1 : Nat) (Option.none : Option Jvm.ClassFile.FieldType), Jvm.Cond.code ({ cls := "com/example/predicate/predicate/engine/FoldedTransactions", name := "isEmpty", desc := "()Z" } : Jvm.MethodName) prog_49_method_5_code (1 : Nat) (Option.some Jvm.ClassFile.FieldType.boolean), Jvm.Cond.code ({ cls := "com/example/predicate/predicate/engine/FoldedTransactions", name := "add", desc := "(Ljava/util/List;Ljava/util/List;JJJ)V" } : Jvm.MethodName) prog_49_method_2_code (13 : Nat) (Option.none : Option Jvm.ClassFile.FieldType), Jvm.Cond.code ({ cls := "java/util/ArrayList", name := "iterator", desc := "()Ljava/util/Iterator;" } : Jvm.MethodName) jdk_38_method_55_code (1 : Nat) (Option.some (Jvm.ClassFile.FieldType.object "java/util/Iterator")), Jvm.Cond.code ({ cls := "java/util/ArrayList$Itr", name := "<init>", desc := "(Ljava/util/ArrayList;)V" } : Jvm.MethodName) jdk_49_method_1_code (2 : Nat) (Option.none : Option Jvm.ClassFile.FieldType), Jvm.Cond.code ({ cls := "java/util/ArrayList$Itr", name := "hasNext", desc := "()Z" } : Jvm.MethodName) jdk_49_method_2_code (1 : Nat) (Option.some Jvm.ClassFile.FieldType.boolean), Jvm.Cond.code ({ cls := "com/example/predicate/predicate/engine/FoldedTransactions$Pivot", name := "<init>", desc := "(Ljava/util/List;J)V" } : Jvm.MethodName) prog_52_method_1_code (4 : Nat) (Option.none : Option Jvm.ClassFile.FieldType), Jvm.Cond.code ({ cls := "java/lang/Record", name := "<init>", desc := "()V" } : Jvm.MethodName) jdk_30_method_1_code (1 : Nat) (Option.none : Option Jvm.ClassFile.FieldType), Jvm.Cond.code ({ cls := "java/util/ArrayDeque", name := "add", desc := "(Ljava/lang/Object;)Z" } : Jvm.MethodName) jdk_21_method_28_code (2 : Nat) (Option.some Jvm.ClassFile.FieldType.boolean), Jvm.Cond.code ({ cls := "java/util/ArrayDeque", name := "addLast", desc := "(Ljava/lang/Object;)V" } : Jvm.MethodName) jdk_21_method_13_code (3 : Nat) (Option.none : Option Jvm.ClassFile.FieldType), Jvm.Cond.code ({ cls := "java/util/ArrayDeque", name := "inc", desc := "(II)I" } : Jvm.MethodName) jdk_21_method_6_code (2 : Nat) (Option.some Jvm.ClassFile.FieldType.int), Jvm.Cond.code ({ cls := "java/util/ArrayList", name := "size", desc := "()I" } : Jvm.MethodName) jdk_38_method_8_code (1 : Nat) (Option.some Jvm.ClassFile.FieldType.int), Jvm.Cond.code ({ cls := "com/example/predicate/predicate/engine/FoldedTransactions", name := "forgetSeenWithin", desc := "(J)V" } : Jvm.MethodName) prog_49_method_6_code (3 : Nat) (Option.none : Option Jvm.ClassFile.FieldType), Jvm.Cond.code ({ cls := "com/example/predicate/predicate/engine/FoldedTransactions", name := "seenWithin", desc := "(J)Z" } : Jvm.MethodName) prog_49_method_4_code (3 : Nat) (Option.some Jvm.ClassFile.FieldType.boolean), Jvm.Cond.code ({ cls := "java/util/HashMap", name := "clear", desc := "()V" } : Jvm.MethodName) jdk_69_method_22_code (3 : Nat) (Option.none : Option Jvm.ClassFile.FieldType), Jvm.Cond.code ({ cls := "java/util/ArrayDeque", name := "clear", desc := "()V" } : Jvm.MethodName) jdk_21_method_53_code (1 : Nat) (Option.none : Option Jvm.ClassFile.FieldType), Jvm.Cond.code ({ cls := "java/util/ArrayDeque", name := "circularClear", desc := "([Ljava/lang/Object;II)V" } : Jvm.MethodName) jdk_21_method_54_code (4 : Nat) (Option.none : Option Jvm.ClassFile.FieldType)]
set_option maxRecDepth 65536 in
theorem codes_eq : words1.filter isCode = codes1 := rfl
theorem w_codes : ∀ c ∈ words1.filter isCode, c.before args0 about1 = true := by
  rw [codes_eq]
  intro c hc
  simp only [codes1, List.mem_cons, List.not_mem_nil, or_false] at hc
  rcases hc with rfl | rfl | rfl | rfl | rfl | rfl | rfl | rfl | rfl | rfl | rfl | rfl | rfl | rfl | rfl | rfl | rfl | rfl | rfl | rfl | rfl | rfl | rfl | rfl | rfl | rfl
  · exact w_c0
  · exact w_c1
  · exact w_c2
  · exact w_c3
  · exact w_c4
  · exact w_c5
  · exact w_c6
  · exact w_c7
  · exact w_c8
  · exact w_c9
  · exact w_c10
  · exact w_c11
  · exact w_c12
  · exact w_c13
  · exact w_c14
  · exact w_c15
  · exact w_c16
  · exact w_c17
  · exact w_c18
  · exact w_c19
  · exact w_c20
  · exact w_c21
  · exact w_c22
  · exact w_c23
  · exact w_c24
  · exact w_c25
set_option maxRecDepth 65536 in
theorem w_t1 : (words1.take 24).all (fun c => isCode c || c.before args0 about1) = true := by decide +kernel
set_option maxRecDepth 65536 in
theorem w_t2 : ((words1.drop 24).take 24).all (fun c => isCode c || c.before args0 about1) = true := by decide +kernel
set_option maxRecDepth 65536 in
theorem w_t3 : (((words1.drop 24).drop 24).take 24).all (fun c => isCode c || c.before args0 about1) = true := by decide +kernel
set_option maxRecDepth 65536 in
theorem w_t4 : ((((words1.drop 24).drop 24).drop 24).take 24).all (fun c => isCode c || c.before args0 about1) = true := by decide +kernel
set_option maxRecDepth 65536 in
theorem w_t5 : (((((words1.drop 24).drop 24).drop 24).drop 24).take 24).all (fun c => isCode c || c.before args0 about1) = true := by decide +kernel
set_option maxRecDepth 65536 in
theorem w_t6 : ((((((words1.drop 24).drop 24).drop 24).drop 24).drop 24).take 24).all (fun c => isCode c || c.before args0 about1) = true := by decide +kernel
set_option maxRecDepth 65536 in
theorem w_t7 : (((((((words1.drop 24).drop 24).drop 24).drop 24).drop 24).drop 24).take 24).all (fun c => isCode c || c.before args0 about1) = true := by decide +kernel
set_option maxRecDepth 65536 in
theorem w_t8 : ((((((((words1.drop 24).drop 24).drop 24).drop 24).drop 24).drop 24).drop 24).take 24).all (fun c => isCode c || c.before args0 about1) = true := by decide +kernel
set_option maxRecDepth 65536 in
theorem w_t9 : ((((((((words1.drop 24).drop 24).drop 24).drop 24).drop 24).drop 24).drop 24).drop 24).all (fun c => isCode c || c.before args0 about1) = true := by decide +kernel
theorem w_tables : (allAtoms (Jvm.Cond.code x code maxLocals ret :: tables_1)).before args0 about1 = true := by
  rw [allAtoms_all]
  show words1.all (fun c => c.before args0 about1) = true
  refine all_split ?_ w_codes
  rw [← List.take_append_drop 24 words1, List.all_append, w_t1, ← List.take_append_drop 24 (words1.drop 24), List.all_append, w_t2, ← List.take_append_drop 24 ((words1.drop 24).drop 24), List.all_append, w_t3, ← List.take_append_drop 24 (((words1.drop 24).drop 24).drop 24), List.all_append, w_t4, ← List.take_append_drop 24 ((((words1.drop 24).drop 24).drop 24).drop 24), List.all_append, w_t5, ← List.take_append_drop 24 (((((words1.drop 24).drop 24).drop 24).drop 24).drop 24), List.all_append, w_t6, ← List.take_append_drop 24 ((((((words1.drop 24).drop 24).drop 24).drop 24).drop 24).drop 24), List.all_append, w_t7, ← List.take_append_drop 24 (((((((words1.drop 24).drop 24).drop 24).drop 24).drop 24).drop 24).drop 24), List.all_append, w_t8, w_t9]
  rfl
set_option maxRecDepth 65536 in
theorem w_rest : rest_1_c.before args0 about1 = true := by decide +kernel
set_option maxRecDepth 65536 in
theorem w_case : (Jvm.Cond.and given_1 narrow_1).before args0 about1 = true := by decide +kernel
theorem w_applies : (headSpec (Jvm.Cond.code x code maxLocals ret :: tables_1) room_1).applies x e0.platform about1 = true :=
  (Spec.applies_iff w_frames).mpr ⟨w_running, w_runnable, w_alone, w_named, w_hears, w_ripe, w_room, w_tables⟩
theorem atStart : AtStart classFile x code maxLocals ret World_1 tables_1 room_1 Calls_1 rest_1 Pre_1 launch0 p0 e0 about1 theMethod args0 below0 :=
  ⟨lists_1, trivial, launch0.admits_env _ _ _, launch0.least_env, fairChoices_fair.cas, fairChoices_fair.clock, w_frames, w_args, w_heap, w_applies, trivial, w_rest, w_case⟩
end start1
theorem witness_1 : WitnessClaimed_1 := ⟨start1.p0, start1.e0, start1.about1, start1.theMethod, start1.args0, start1.below0, start1.atStart⟩
end Jvm.Pilot.@@N@@
